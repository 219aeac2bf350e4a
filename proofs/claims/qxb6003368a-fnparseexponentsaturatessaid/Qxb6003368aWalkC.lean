import Derived.Test.Qxb6003368aWalkA
namespace Go.Proofs.Qxb6003368a
open Go.RowKit

theorem info5 : (Try.prog.info? 5).map (fun i => (i.zero, i.size, i.bytes)) = some (some (.int .u8 0), 1, 1) := by kernel_rfl

/-- 'make([]byte, n)' -/
theorem make_bytes (n : Nat) (hn : n ≤ 1000) (w : World) :
    (Instr.makeSlice 28 (.int .i64 n) (.int .i64 n)).run Try.prog w = .ok (.slice (some ⟨w.heap.size, 0, none⟩) n n) (w.alloc (.cells (madeCells #[.int .u8 0] n) 5)) := by
  obtain ⟨i, hi, hz0, hz1, hz2⟩ := info_parts info5
  have h := run_make (P := Try.prog) w 28 5 i (.int .u8 0) Try.underlying28 hi hz0 .i64 .i64 n n (by omega) (by omega) (by rw [hz2]; omega) (by omega)
  rw [hz1, Nat.mul_one, Int.toNat_natCast] at h
  exact h

/-- a row of n bytes of the call's own, in block B: cell i holds f i -/
structure Row (W : World) (B n : Nat) (f : Nat → Int) (wr : World) : Prop where
  q : Q W wr
  base : W.heap.size ≤ B
  cells : ∀ i, i < n → wr.cell? ⟨B, i, none⟩ = some (.int .u8 (f i))
  free : ∀ i, wr.frozen? ⟨B, i, none⟩ = false

theorem Row.fresh {W : World} {n : Nat} {f : Nat → Int} {C : Array Value} {t : TypeId} (h : ∀ i, i < n → C[i]? = some (.int .u8 (f i))) : Row W W.heap.size n f (W.alloc (.cells C t)) := by
  refine ⟨(Q.refl W).alloc _ _, Nat.le_refl _, fun i hi => ?_, fun i => ?_⟩
  · rw [World.cell?_alloc_new]; exact h i hi
  · rw [frozen?_alloc_cells]; simp [World.frozen?]
theorem Row.set {W wr : World} {B n : Nat} {f : Nat → Int} (h : Row W B n f wr) {k : Nat} (hk : k < n) (x : Int) : Row W B n (fun i => if i = k then x else f i) (wr.setCell ⟨B, k, none⟩ (.int .u8 x)) := by
  refine ⟨h.q.setCell h.base _, h.base, fun i hi => ?_, fun i => ?_⟩
  · by_cases e : i = k
    · subst e
      rw [World.cell?_setCell_same _ _ _ (h.cells i hi), if_pos rfl]
    · rw [World.cell?_setCell_other _ _ _ _ (by intro e2; injection e2; omega), if_neg e]
      exact h.cells i hi
  · rw [World.frozen?_setCell]; exact h.free i
theorem Row.same {W wr : World} {B n : Nat} {f g : Nat → Int} (h : Row W B n f wr) (e : ∀ i, i < n → f i = g i) : Row W B n g wr :=
  ⟨h.q, h.base, fun i hi => by rw [← e i hi]; exact h.cells i hi, h.free⟩

/-- 'string(b[j:])' of such a row -/
theorem Row.text {W wr : World} {B n : Nat} {f : Nat → Int} (h : Row W B n f wr) (j m cap : Nat) (hj : j + m ≤ n) (l : List UInt8) (hl : l.length = m) (hf : ∀ i (hi : i < l.length), f (j + i) = (l[i].toNat : Int)) :
    Sem.run Try.prog (convert 28 9 (Value.slice (some { block := B, off := j }) m cap)) wr = .ok (.string (str l)) wr := by
  have hc := run_convert_bytes_arg (P := Try.prog) wr 28 5 Try.underlying28 Try.underlying5 B j m cap (l.map fun c => (c.toNat : Int)) (by simpa using hl) (fun i hi => by
    rw [h.cells (j + i) (by omega), hf i (by omega)]
    simp [List.getD, List.getElem?_eq_getElem (show i < l.length by omega)]) 9 Try.underlying9
  rw [hc]
  have e : strOfNums (l.map fun c => (c.toNat : Int)) = str l := by
    apply ByteArray.ext
    simp only [strOfNums, str, List.map_map]
    congr 1
    conv => rhs; rw [← List.map_id l]
    apply List.map_congr_left
    intro c _
    simp
  rw [e]

theorem made_at {n i : Nat} (h : i < n) : (madeCells #[.int .u8 0] n)[i]? = some (.int .u8 0) := by
  have e : i % 1 = 0 := Nat.mod_one i
  simp [madeCells, h, e]

set_option maxHeartbeats 400000 in
theorem zeros_any (n : Nat) (hn : n ≤ 1000) (W : World) :
    Calls Try.prog 10 #[.int .i64 n] W fun e w' => e = .returned (.string (str (List.replicate n 48))) ∧ Q W w' := by
  have hmk := make_bytes n hn
  go_enter Try.func10, Try.ntmps10
  go_wp2
  go_loopw [4] (fun i wr => ∃ k : Nat, k ≤ n ∧ i = .int .i64 k ∧ Row W W.heap.size n (fun i => if i < k then 48 else 0) wr) (fun i _ => n - (intOf i).toNat)
  case atStart => exact ⟨0, Nat.zero_le _, rfl, Row.fresh fun i hi => by simpa using made_at hi⟩
  case round =>
    obtain ⟨k, hk, rfl, hzs⟩ := hrel
    by_cases hlt : k < n
    · have hv := hzs.cells k hlt
      have hf := hzs.free k
      go_wp2
      go_roundw
      case rel => exact ⟨k + 1, by omega, by go_num, (hzs.set hlt 48).same fun i hi => by split <;> split <;> (try split) <;> omega⟩
      case measure => simp [intOf]; omega
    · have hkn : k = n := by omega
      have ht := hzs.text 0 n n (by omega) (List.replicate n 48) (by simp) (fun i hi => by
        have : i < n := by simpa using hi
        simp [hkn, this])
      clear hmk
      go_wp2
      go_ret
      exact ⟨rfl, hzs.q⟩
end Go.Proofs.Qxb6003368a
