import Derived.Test.Qxb6002910aWalkB
namespace Go.Proofs.Qxb6002910a
open Go.RowKit

theorem to_yes {w poly u v k d : Nat} (hd : d + k = w - 1) (hk : k < w) (h : u.testBit d = true) :
    Poly.timesTo w poly u v (k + 1) = Poly.timesTo w poly u v k ^^^ Poly.tXn poly k v := by
  have e : w - 1 - k = d := by omega
  simp [Poly.timesTo, Poly.sel, e, h]
theorem to_no {w poly u v k d : Nat} (hd : d + k = w - 1) (hk : k < w) (h : u.testBit d = false) :
    Poly.timesTo w poly u v (k + 1) = Poly.timesTo w poly u v k := by
  have e : w - 1 - k = d := by omega
  simp [Poly.timesTo, Poly.sel, e, h]

/-- the receiver's box, read behind calls -/
theorem box_cells {W wr : World} {w poly : Nat} (h : Q (W.alloc (.cells #[.int .u64 w, .int .u64 poly] 34)) wr) :
    wr.cell? ⟨W.heap.size, 0, none⟩ = some (.int .u64 w) ∧ wr.cell? ⟨W.heap.size, 1, none⟩ = some (.int .u64 poly) := by
  have hc := h.cells
  constructor
  · rw [hc _ _ (by simp)]; simp
  · rw [hc _ _ (by simp)]; simp

set_option maxHeartbeats 1000000 in
theorem times_any (w poly u v : Nat) (hw : 1 ≤ w) (hw' : w ≤ 64) (hp : poly < 2 ^ w) (hu : u < 18446744073709551616) (hv : v < 2 ^ w) (W : World) :
    Calls Try.prog 17 #[.agg #[.int .u64 w, .int .u64 poly], .int .u64 u, .int .u64 v] W fun e w' => e = .returned (.int .u64 (Poly.times w poly u v : Nat)) ∧ Q W w' := by
  have hp' := lt_of hw' hp
  go_enter Try.func17, Try.ntmps17
  go_wp2_with fail
  go_loopw [2, 7, 8] (fun v' p i wr => ∃ m k : Nat, m + k = w ∧ i = .int .i64 ((m : Int) - 1) ∧ v' = .int .u64 (Poly.tXn poly k v : Nat) ∧ p = .int .u64 (Poly.timesTo w poly u v k : Nat) ∧ Q (W.alloc (.cells #[.int .u64 w, .int .u64 poly] 34)) wr) (fun _ _ i _ => (intOf i + 1).toNat)
  case atStart => exact ⟨w, 0, rfl, rfl, rfl, rfl, Q.refl _⟩
  case round =>
    obtain ⟨m, k, hmk, rfl, rfl, rfl, hq⟩ := hrel
    obtain ⟨hc0, hc1⟩ := box_cells hq
    have hz := hq.size
    have ht := lt_of hw' (Poly.tXn_lt hp hv k)
    have hs := lt_of hw' (Poly.timesTo_lt (u := u) hp hv k)
    have HM : Hid (m + k = w) := hmk
    cases m with
    | zero =>
      have hkw : k = w := by omega
      clear hmk
      go_wp2_with fail
      go_ret
      exact ⟨ret_eq (by rw [hkw]; rfl), ((Q.refl W).alloc _ _).trans hq⟩
    | succ d =>
      rw [show ((d + 1 : Nat) : Int) - 1 = (d : Int) from by omega]
      have hlt : k < w := by omega
      have hdw : d < w := by omega
      clear hmk
      go_wp2_with fail
      · have hb : (bits BinOp.and IntKind.u64 ((u : Int) / 2 ^ d) 1 != 0) = true := by assumption
        rw [bit_test hu] at hb
        refine (timesX_any w poly _ ht hp' _).mono ?_
        rintro e w1 ⟨rfl, hq1⟩
        go_wp2_with fail
        go_roundw
        case rel => exact ⟨d, k + 1, by have := HM.out; omega, rfl, rfl, int_eq (by rw [xor_cast hs ht, to_yes (d := d) (by have := HM.out; omega) hlt hb]), hq.trans hq1⟩
        case measure => simp [intOf]
      · have hb : (bits BinOp.and IntKind.u64 ((u : Int) / 2 ^ d) 1 != 0) = false := by assumption
        rw [bit_test hu] at hb
        refine (timesX_any w poly _ ht hp' _).mono ?_
        rintro e w1 ⟨rfl, hq1⟩
        go_wp2_with fail
        go_roundw
        case rel => exact ⟨d, k + 1, by have := HM.out; omega, rfl, rfl, int_eq (by rw [to_no (d := d) (by have := HM.out; omega) hlt hb]), hq.trans hq1⟩
        case measure => simp [intOf]
end Go.Proofs.Qxb6002910a
