import Derived.Test.Qxb6003379aWalkA
namespace Go.Proofs.Qxb6003379a
open Go.RowKit

/-- where the white space from k on ends -/
structure Stop (f : Nat → Int) (k n r : Nat) : Prop where
  lo : k ≤ r
  hi : r ≤ n
  all : ∀ i, k ≤ i → i < r → sp (f i) = true
  no : r < n → sp (f r) = false
theorem Stop.same {f : Nat → Int} {k m n r r' : Nat} (h : Stop f k n r) (h' : Stop f m n r') (h1 : k ≤ m) (h2 : m ≤ r) : r' = r := by
  rcases Nat.lt_trichotomy r' r with c | c | c
  · have a := h.all r' (by have := h'.lo; omega) c
    have b := h'.no (by have := h.hi; omega)
    rw [a] at b; cases b
  · exact c
  · have a := h'.all r h2 c
    have b := h.no (by have := h'.hi; omega)
    rw [a] at b; cases b

/-- the parser in block PB stands at k of the row in block B -/
structure Pt (W : World) (PB B n : Nat) (f : Nat → Int) (k : Nat) (wr : World) : Prop where
  src : wr.cell? ⟨PB, 0, none⟩ = some (.slice (some ⟨B, 0, none⟩) n n)
  place : wr.cell? ⟨PB, 1, none⟩ = some (.int .i64 k)
  free : wr.frozen? ⟨PB, 1, none⟩ = false
  row : ∀ i, i < n → wr.cell? ⟨B, i, none⟩ = some (.int .u8 (f i))
  below : Below PB W wr
  apart : B < PB

theorem below_drewN {B : Nat} {a w : World} (h : Below B a w) (n : Nat) : Below B a (w.drewN n) := h.trans ⟨rfl, rfl, rfl, Nat.le_refl _, fun _ _ => rfl⟩

theorem Pt.step {W wr : World} {PB B n k : Nat} {f : Nat → Int} (h : Pt W PB B n f k wr) (q : Nat) : Pt W PB B n f (k + 1) ((wr.drewN q).setCell ⟨PB, 1, none⟩ (.int .i64 ((k : Int) + 1))) := by
  have hap := h.apart
  have h0 : (wr.drewN q).cell? ⟨PB, 1, none⟩ = some (.int .i64 k) := h.place
  refine ⟨?_, ?_, ?_, ?_, (below_drewN h.below _).setCell (Nat.le_refl _) _, hap⟩
  · rw [World.cell?_setCell_other _ _ _ _ (by intro e; injection e; omega)]; exact h.src
  · rw [World.cell?_setCell_same _ _ _ h0]; rfl
  · rw [World.frozen?_setCell]; exact h.free
  · intro i hi
    rw [World.cell?_setCell_other _ _ _ _ (by intro e; injection e; omega)]; exact h.row i hi

theorem sp1 {x : Int} (h : (x == 32) = true) : sp x = true := by simp [sp, h]
theorem sp2 {x : Int} (h : (x == 9) = true) : sp x = true := by simp [sp, h]
theorem sp3 {x : Int} (h : (x == 10) = true) : sp x = true := by simp [sp, h]
theorem sp4 {x : Int} (h : (x == 13) = true) : sp x = true := by simp [sp, h]
theorem sp5 {x : Int} (h1 : (x == 32) = false) (h2 : (x == 9) = false) (h3 : (x == 10) = false) (h4 : (x == 13) = false) : sp x = false := by simp [sp, h1, h2, h3, h4]
theorem all_step {f : Nat → Int} {k0 k : Nat} (h : ∀ i, k0 ≤ i → i < k → sp (f i) = true) (hk : sp (f k) = true) : ∀ i, k0 ≤ i → i < k + 1 → sp (f i) = true := by
  intro i h1 h2
  by_cases e : i = k
  · subst e; exact hk
  · exact h i h1 (by omega)

set_option maxHeartbeats 1000000 in
theorem sp_any (PB B n k0 : Nat) (f : Nat → Int) (hk0 : k0 ≤ n) (hn : n ≤ 1048576) (W : World) (h : Pt W PB B n f k0 W) :
    Calls Try.prog 17 #[.pointer (some ⟨PB, 0, none⟩)] W fun e w' => e = .returned (.tuple #[]) ∧ ∃ r, Stop f k0 n r ∧ w'.cell? ⟨PB, 1, none⟩ = some (.int .i64 r) ∧ Below PB W w' := by
  go_enter Try.func17, Try.ntmps17
  go_wp2_with fail
  go_loopg [22] (n - k0) (fun g _ wr => ∃ k : Nat, g = n - k ∧ k ≤ n ∧ k0 ≤ k ∧ (∀ i, k0 ≤ i → i < k → sp (f i) = true) ∧ Pt W PB B n f k wr)
  case atStart => exact ⟨k0, rfl, hk0, Nat.le_refl _, fun i h1 h2 => by omega, h⟩
  case round =>
    obtain ⟨k, hg, hk, hk2, hall, hp⟩ := hrel
    have c0 := hp.src
    have c1 := hp.place
    have cf := hp.free
    have HG : Hid (gk = n - k) := hg
    have HA : Hid (∀ i, k0 ≤ i → i < k → sp (f i) = true) := hall
    clear hg hall
    by_cases hlt : k < n
    · have c2 := hp.row k hlt
      have hap := hp.apart
      have hltI : (k : Int) < (n : Int) := by omega
      go_wp2_with fail
      go_quiet (fail)
      go_wp2_with fail
      go_quiet (fail)
      go_wp2_with fail
      · have hs := sp1 (x := f k) (by assumption)
        go_roundg (n - (k + 1))
        case measure => have := HG.out; omega
        case rel => exact ⟨k + 1, rfl, by omega, by omega, all_step HA.out hs, hp.step _⟩
      · have hs := sp2 (x := f k) (by assumption)
        go_roundg (n - (k + 1))
        case measure => have := HG.out; omega
        case rel => exact ⟨k + 1, rfl, by omega, by omega, all_step HA.out hs, hp.step _⟩
      · have hs := sp3 (x := f k) (by assumption)
        go_roundg (n - (k + 1))
        case measure => have := HG.out; omega
        case rel => exact ⟨k + 1, rfl, by omega, by omega, all_step HA.out hs, hp.step _⟩
      · have hs := sp4 (x := f k) (by assumption)
        go_roundg (n - (k + 1))
        case measure => have := HG.out; omega
        case rel => exact ⟨k + 1, rfl, by omega, by omega, all_step HA.out hs, hp.step _⟩
      · have hs := sp5 (x := f k) (by assumption) (by assumption) (by assumption) (by assumption)
        refine bodyPost_ret (results_none rfl _ _ _) rfl ?_
        exact ⟨rfl, k, ⟨hk2, hk, HA.out, fun _ => hs⟩, c1, below_drewN hp.below _⟩
    · go_wp2_with fail
      go_quiet (fail)
      go_wp2_with fail
      go_end0
      exact ⟨rfl, k, ⟨hk2, hk, HA.out, fun h => absurd h hlt⟩, c1, below_drewN hp.below _⟩

set_option maxHeartbeats 1000000 in
theorem zz_any (B n k0 : Nat) (f : Nat → Int) (hk0 : k0 ≤ n) (hn : n ≤ 1048576) (W : World) (hB : B < W.heap.size) (hrow : ∀ i, i < n → W.cell? ⟨B, i, none⟩ = some (.int .u8 (f i))) :
    Calls Try.prog 14 #[.slice (some ⟨B, 0, none⟩) n n, .int .i64 k0] W fun e w' => ∃ r : Nat, e = .returned (.int .i64 r) ∧ Stop f k0 n r ∧ Below W.heap.size W w' := by
  have hp : Pt (W.alloc (Obj.cells #[Value.slice (some { block := B, off := 0 }) n n, Value.int IntKind.i64 k0, Value.int IntKind.i64 0, Value.pointer none] 38)) W.heap.size B n f k0 (W.alloc (Obj.cells #[Value.slice (some { block := B, off := 0 }) n n, Value.int IntKind.i64 k0, Value.int IntKind.i64 0, Value.pointer none] 38)) := by
    refine ⟨by simp, by simp, ?_, ?_, Below.refl _ _, hB⟩
    · rw [frozen?_alloc_cells]; simp [World.frozen?]
    · intro i hi
      rw [World.cell?_alloc_lt _ _ _ hB]; exact hrow i hi
  have HB : Below W.heap.size W (W.alloc (Obj.cells #[Value.slice (some { block := B, off := 0 }) n n, Value.int IntKind.i64 k0, Value.int IntKind.i64 0, Value.pointer none] 38)) := (Below.refl _ _).alloc (Nat.le_refl _) _
  clear hrow
  go_enter Try.func14, Try.ntmps14
  go_wp2_with fail
  refine (sp_any W.heap.size B n k0 f hk0 hn _ hp).mono ?_
  rintro e w2 ⟨rfl, r, hr, hc, hb⟩
  go_wp2_with fail
  go_ret
  exact ⟨r, rfl, hr, HB.trans hb⟩

set_option maxHeartbeats 1000000 in
theorem sp_nil (PB : Nat) (W : World) (c0 : W.cell? ⟨PB, 0, none⟩ = some (.slice none 0 0)) (c1 : W.cell? ⟨PB, 1, none⟩ = some (.int .i64 0)) :
    Calls Try.prog 17 #[.pointer (some ⟨PB, 0, none⟩)] W fun e w' => e = .returned (.tuple #[]) ∧ w'.cell? ⟨PB, 1, none⟩ = some (.int .i64 0) ∧ Below PB W w' := by
  go_enter Try.func17, Try.ntmps17
  go_wp2_with fail
  go_loopg [22] 1 (fun g _ wr => wr = W)
  case atStart => rfl
  case round =>
    subst hrel
    go_wp2_with fail
    go_quiet (fail)
    go_wp2_with fail
    go_end0
    exact ⟨rfl, c1, below_drewN (Below.refl _ _) _⟩

set_option maxHeartbeats 1000000 in
theorem zz_nil (W : World) :
    Calls Try.prog 14 #[.slice none 0 0, .int .i64 0] W fun e w' => e = .returned (.int .i64 0) ∧ Below W.heap.size W w' := by
  have HB : Below W.heap.size W (W.alloc (Obj.cells #[Value.slice none 0 0, Value.int IntKind.i64 0, Value.int IntKind.i64 0, Value.pointer none] 38)) := (Below.refl _ _).alloc (Nat.le_refl _) _
  go_enter Try.func14, Try.ntmps14
  go_wp2_with fail
  refine (sp_nil W.heap.size _ (by simp) (by simp)).mono ?_
  rintro e w2 ⟨rfl, hc, hb⟩
  go_wp2_with fail
  go_ret
  exact ⟨rfl, HB.trans hb⟩
end Go.Proofs.Qxb6003379a
