import Derived.Test.Qxb6003379aProg
import Derived.WalkKit
import Derived.WalkSpells
import Derived.WalkLawsBesides
import Derived.Laws.CopyOwn
import Derived.Deep.QuietTactic
import Derived.BigQuiet
import Derived.Deep.LoopGhost
import Derived.ProofKit
namespace Go.Proofs.Qxb6003379a
open Go.RowKit

theorem ret_bool {a b : Bool} (h : a = b) : Ending.returned (.bool a) = .returned (.bool b) := by rw [h]

set_option maxHeartbeats 400000 in
theorem bytes_no (a : Option Addr) (n c : Nat) (x y : Int) (h : 1048576 < n) (W : World) :
    Calls Try.prog 12 #[.slice a n c, .int .i64 x, .int .i64 y] W fun e w' => e = .returned (.bool false) ∧ w' = W := by
  have h2 : (1048576 : Int) < (n : Int) := by omega
  go_enter Try.func12, Try.ntmps12
  go_wp2
  go_ret
  exact ⟨rfl, rfl⟩
set_option maxHeartbeats 400000 in
theorem bytes_yes (a : Option Addr) (n c : Nat) (x y : Int) (h : n ≤ 1048576) (W : World) :
    Calls Try.prog 12 #[.slice a n c, .int .i64 x, .int .i64 y] W fun e w' => e = .returned (.bool true) ∧ w' = W := by
  have h2 : (n : Int) ≤ 1048576 := by omega
  go_enter Try.func12, Try.ntmps12
  go_wp2
  go_ret
  exact ⟨rfl, rfl⟩

/-- JSON's white space -/
def sp (x : Int) : Bool := x == 32 || x == 9 || x == 10 || x == 13

set_option maxHeartbeats 400000 in
theorem space_any (x : Int) (W : World) :
    Calls Try.prog 15 #[.int .u8 x] W fun e w' => e = .returned (.bool (sp x)) ∧ w' = W := by
  cases h1 : x == 32
  · cases h2 : x == 9
    · cases h3 : x == 10
      · have hs : Hid (sp x = (x == 13)) := by show _ = _; simp [sp, h1, h2, h3]
        go_enter Try.func15, Try.ntmps15
        go_wp2
        go_ret
        exact ⟨ret_bool hs.out.symm, rfl⟩
      · have hs : Hid (sp x = true) := by show _ = _; simp [sp, h1, h2, h3]
        go_enter Try.func15, Try.ntmps15
        go_wp2
        go_ret
        exact ⟨ret_bool hs.out.symm, rfl⟩
    · have hs : Hid (sp x = true) := by show _ = _; simp [sp, h1, h2]
      go_enter Try.func15, Try.ntmps15
      go_wp2
      go_ret
      exact ⟨ret_bool hs.out.symm, rfl⟩
  · have hs : Hid (sp x = true) := by show _ = _; simp [sp, h1]
    go_enter Try.func15, Try.ntmps15
    go_wp2
    go_ret
    exact ⟨ret_bool hs.out.symm, rfl⟩

theorem info5 : (Try.prog.info? 5).map (fun i => (i.zero, i.size, i.bytes)) = some (some (.int .u8 0), 1, 1) := by kernel_rfl
theorem size5 : (Try.prog.info? 5).map (·.size) = some 1 := by kernel_rfl
/-- 'make([]byte, n)' -/
theorem make_bytes (n : Nat) (hn : n ≤ 1048576) (w : World) :
    (Instr.makeSlice 27 (.int .i64 n) (.int .i64 n)).run Try.prog w = .ok (.slice (some ⟨w.heap.size, 0, none⟩) n n) (w.alloc (.cells (madeCells #[.int .u8 0] n) 5)) := by
  obtain ⟨i, hi, hz0, hz1, hz2⟩ := info_parts info5
  have h := run_make (P := Try.prog) w 27 5 i (.int .u8 0) Try.underlying27 hi hz0 .i64 .i64 n n (by omega) (by omega) (by rw [hz2]; omega) (by omega)
  rw [hz1, Nat.mul_one, Int.toNat_natCast] at h
  exact h

set_option maxHeartbeats 400000 in
theorem clone_nil (W : World) :
    Calls Try.prog 13 #[.slice none 0 0] W fun e w' => e = .returned (.slice none 0 0) ∧ w' = W := by
  have hnil := fun w => Lib.run_eql_slice_nil (P := Try.prog) w 27 5 none 0 0 0 0 Try.underlying27
  go_enter Try.func13, Try.ntmps13
  go_wp2
  go_ret
  exact ⟨rfl, rfl⟩

/-- the cells that go over -/
def cellsOf (n : Nat) (f : Nat → Int) : List Value := (List.range n).map fun i => .int .u8 (f i)
theorem cellsOf_length (n : Nat) (f : Nat → Int) : (cellsOf n f).length = n := by simp [cellsOf]
theorem cellsOf_at {n : Nat} {f : Nat → Int} {j : Nat} (h : j < n) : (cellsOf n f)[j]? = some (.int .u8 (f j)) := by simp [cellsOf, h]
theorem cellsOf_one (n : Nat) (f : Nat → Int) : ∀ v ∈ cellsOf n f, v.oneCell' = true := by
  intro v hv
  simp only [cellsOf, List.mem_map] at hv
  obtain ⟨i, _, rfl⟩ := hv
  rfl
theorem copy_run (x : Addr) (n c : Nat) (f : Nat → Int) (W : World) (hc : ∀ i, i < n → W.cell? (x.add i) = some (.int .u8 (f i))) :
    ∃ w2, Sem.run Try.prog (Builtin.copy_ #[27, 27] 3 #[Value.slice (some { block := W.heap.size, off := 0 }) n n, Value.slice (some x) n c]) (W.alloc (Obj.cells (madeCells #[Value.int IntKind.u8 0] n) 5)) = .ok (goInt n) w2
      ∧ Below W.heap.size W w2 ∧ W.heap.size < w2.heap.size ∧ ∀ i, i < n → w2.cell? ⟨W.heap.size, i, none⟩ = some (.int .u8 (f i)) := by
  by_cases h0 : n = 0
  · subst h0
    refine ⟨_, run_copy_none (P := Try.prog) _ 27 27 3 5 _ _ 0 0 0 c Try.underlying27 size5 rfl, (Below.refl _ _).alloc (Nat.le_refl _) _, by simp, fun i hi => by omega⟩
  have hg : (W.alloc (.cells (madeCells #[.int .u8 0] n) 5)).heap[W.heap.size]? = some (.cells (madeCells #[.int .u8 0] n) 5 (0, 0)) := (MapKept.heap_alloc W _).1
  have hsrc : ∀ j v, (cellsOf n f)[j]? = some v → (W.alloc (.cells (madeCells #[.int .u8 0] n) 5)).cell? (x.add j) = some v := by
    intro j v hj
    have hjn : j < n := by
      rcases Nat.lt_or_ge j n with h | h
      · exact h
      · rw [List.getElem?_eq_none (by rw [cellsOf_length]; exact h)] at hj; cases hj
    rw [cellsOf_at hjn] at hj
    cases hj
    exact Lib.cell?_alloc_some _ (hc j hjn)
  have hr := run_copy_row Try.prog (W.alloc (.cells (madeCells #[.int .u8 0] n) 5)) 27 27 3 5 W.heap.size 0 n n x n c _ 5 (cellsOf n f) Try.underlying27 size5 hg (by rw [cellsOf_length]; exact (Nat.min_self n).symm) hsrc (by rw [cellsOf_length, size_madeCells]; omega) (cellsOf_one n f)
  have hrow : ((madeCells #[.int .u8 0] n).toList.take 0 ++ cellsOf n f ++ (madeCells #[.int .u8 0] n).toList.drop (0 + (cellsOf n f).length)).toArray = (cellsOf n f).toArray := by
    rw [List.drop_of_length_le (by rw [cellsOf_length]; simp [size_madeCells])]; simp
  rw [hrow, cellsOf_length] at hr
  refine ⟨_, hr, below_setRow ((Below.refl _ _).alloc (Nat.le_refl _) _) (Nat.le_refl _) _, by simp [World.setRow], fun i hi => ?_⟩
  have hh := setRow_heap (W.alloc (.cells (madeCells #[.int .u8 0] n) 5)) W.heap.size _ (cellsOf n f).toArray 5 (0, 0) hg
  have := cellsOf_at (f := f) hi
  simp only [World.cell?, hh]
  simpa using this

set_option maxHeartbeats 400000 in
theorem clone_any (x : Addr) (n c : Nat) (f : Nat → Int) (hn : n ≤ 1048576) (W : World) (hc : ∀ i, i < n → W.cell? (x.add i) = some (.int .u8 (f i))) :
    Calls Try.prog 13 #[.slice (some x) n c] W fun e w' => e = .returned (.slice (some ⟨W.heap.size, 0, none⟩) n n) ∧ Below W.heap.size W w' ∧ W.heap.size < w'.heap.size ∧ (∀ i, i < n → w'.cell? ⟨W.heap.size, i, none⟩ = some (.int .u8 (f i))) := by
  have hmk := make_bytes n hn
  have hnil := fun w => Lib.run_eql_slice_nil (P := Try.prog) w 27 5 (some x) n c 0 0 Try.underlying27
  obtain ⟨w2, hcp, k1, k2, k3⟩ := copy_run x n c f W hc
  have K3 : Hid (∀ i, i < n → w2.cell? ⟨W.heap.size, i, none⟩ = some (.int .u8 (f i))) := k3
  clear hc k3
  go_enter Try.func13, Try.ntmps13
  go_wp2
  go_ret
  exact ⟨rfl, k1, k2, K3.out⟩
end Go.Proofs.Qxb6003379a
