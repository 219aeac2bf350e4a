import Derived.Test.Qxb6002910aTop1
import Derived.Test.Qxb6002910aWalkE
namespace Go.Proofs.Qxb6002910a
open Go.RowKit

theorem xp_yes {w g e k d : Nat} (hd : d + k = 63) (h : e.testBit d = true) : Poly.xpow w g e (k + 1) = Poly.mulN w g (Poly.mulN w g (Poly.xpow w g e k) (Poly.xpow w g e k)) 2 := by
  have e1 : 63 - k = d := by omega
  simp [Poly.xpow, e1, h]
theorem xp_no {w g e k d : Nat} (hd : d + k = 63) (h : e.testBit d = false) : Poly.xpow w g e (k + 1) = Poly.mulN w g (Poly.xpow w g e k) (Poly.xpow w g e k) := by
  have e1 : 63 - k = d := by omega
  simp [Poly.xpow, e1, h]
theorem xp_lt {w g e : Nat} (hw : 1 ≤ w) (hw' : w ≤ 64) (hg : g < 2 ^ w) (k : Nat) : Poly.xpow w g e k < 2 ^ w := by
  induction k with
  | zero => exact Nat.one_lt_two_pow (by omega)
  | succ k ih =>
    unfold Poly.xpow
    split
    · exact Poly.mulN_lt hw' hg (Poly.mulN_lt hw' hg ih _) _
    · exact Poly.mulN_lt hw' hg ih _

set_option maxHeartbeats 1000000 in
theorem xpow_any (w g e : Nat) (hw : 1 ≤ w) (hw' : w ≤ 64) (hg : g < 2 ^ w) (he : e < 18446744073709551616) (W : World) :
    Calls Try.prog 19 #[.int .u64 w, .int .u64 g, .int .u64 e] W fun r w' => r = .returned (.int .u64 (Poly.xpow w g e 64 : Nat)) ∧ w' = W := by
  have hg' := lt_of hw' hg
  go_enter Try.func19, Try.ntmps19
  go_wp2_with fail
  go_loop [7, 8] (fun r i => ∃ m k : Nat, m + k = 64 ∧ i = .int .i64 ((m : Int) - 1) ∧ r = .int .u64 (Poly.xpow w g e k : Nat)) (fun _ i => (intOf i + 1).toNat)
  case atStart => exact ⟨64, 0, rfl, rfl, rfl⟩
  case round =>
    obtain ⟨m, k, hmk, rfl, rfl⟩ := hrel
    have hx := xp_lt (e := e) hw hw' hg k
    have hx' := lt_of hw' hx
    have HM : Hid (m + k = 64) := hmk
    cases m with
    | zero =>
      have hk : k = 64 := by omega
      subst hk
      clear hmk
      go_wp2_with fail
      go_ret
      exact ⟨rfl, rfl⟩
    | succ d =>
      rw [show ((d + 1 : Nat) : Int) - 1 = (d : Int) from by omega]
      have hd : d < 64 := by omega
      have hm1 := Poly.mulN_lt hw' hg hx (Poly.xpow w g e k)
      clear hmk
      go_wp2_with fail
      refine (mulr_any w g _ _ hw hw' hg hx hx' _).mono ?_
      rintro r w1 ⟨rfl, rfl⟩
      go_wp2_with fail
      · have hb : (bits BinOp.and IntKind.u64 ((e : Int) / 2 ^ d) 1 != 0) = true := by assumption
        rw [bit_test he] at hb
        have c2 := mulr_any w g _ 2 hw hw' hg hm1 (by omega) w1
        rw [show ((2 : Nat) : Int) = 2 from rfl] at c2
        refine c2.mono ?_
        clear c2
        rintro r w2 ⟨rfl, rfl⟩
        go_wp2_with fail
        go_round
        case rel => exact ⟨d, k + 1, by have := HM.out; omega, rfl, int_eq (by rw [xp_yes (d := d) (by have := HM.out; omega) hb])⟩
        case measure => simp [intOf]
      · have hb : (bits BinOp.and IntKind.u64 ((e : Int) / 2 ^ d) 1 != 0) = false := by assumption
        rw [bit_test he] at hb
        go_round
        case rel => exact ⟨d, k + 1, by have := HM.out; omega, rfl, int_eq (by rw [xp_no (d := d) (by have := HM.out; omega) hb])⟩
        case measure => simp [intOf]

set_option maxHeartbeats 1000000 in
theorem model_any (w poly v n : Nat) (hw : 1 ≤ w) (hw' : w ≤ 64) (hp : poly < 18446744073709551616) (hv : v < 18446744073709551616) (hn : n ≤ 1152921504606846976) (W : World) :
    Calls Try.prog 13 #[.int .u64 w, .int .u64 poly, .int .u64 v, .int .i64 n] W fun r w' => r = .returned (.int .u64 (Poly.model w poly v n : Nat)) ∧ w' = W := by
  go_enter Try.func13, Try.ntmps13
  go_wp2_with fail
  refine (rev_any poly w hp hw' _).mono ?_
  rintro r w1 ⟨rfl, rfl⟩
  go_wp2_with fail
  rw [show ((n : Int) * 8) = ((8 * n : Nat) : Int) from by omega]
  refine (xpow_any w (Poly.rev w poly) (8 * n) hw hw' (Poly.rev_lt w poly) (by omega) _).mono ?_
  rintro r w2 ⟨rfl, rfl⟩
  go_wp2_with fail
  refine (rev_any v w hv hw' _).mono ?_
  rintro r w3 ⟨rfl, rfl⟩
  go_wp2_with fail
  refine (mulr_any w _ _ _ hw hw' (Poly.rev_lt w poly) (Poly.rev_lt w v) (lt_of hw' (xp_lt hw hw' (Poly.rev_lt w poly) 64)) _).mono ?_
  rintro r w4 ⟨rfl, rfl⟩
  go_wp2_with fail
  refine (rev_any _ w (mulr_lt hw' (Poly.rev_lt w poly) (Poly.rev_lt w v) _) hw' _).mono ?_
  rintro r w5 ⟨rfl, rfl⟩
  go_wp2_with fail
  go_ret
  exact ⟨rfl, rfl⟩

set_option maxHeartbeats 400000 in
theorem zzTimes_any (w poly u v : Nat) (hw : 1 ≤ w) (hw' : w ≤ 64) (hp : poly < 2 ^ w) (hu : u < 18446744073709551616) (hv : v < 2 ^ w) (W : World) :
    Calls Try.prog 11 #[.int .u64 w, .int .u64 poly, .int .u64 u, .int .u64 v] W fun e w' => e = .returned (.int .u64 (Poly.times w poly u v : Nat)) ∧ Q W w' := by
  go_enter Try.func11, Try.ntmps11
  go_wp2_with fail
  refine (times_any w poly u v hw hw' hp hu hv _).mono ?_
  rintro e w1 ⟨rfl, hq⟩
  go_wp2_with fail
  go_ret
  exact ⟨rfl, hq⟩

set_option maxHeartbeats 400000 in
theorem zzShift_any (w poly v n : Nat) (hw : 2 ≤ w) (hw' : w ≤ 64) (hp : poly < 2 ^ w) (hv : v < 2 ^ w) (hn : n ≤ 1152921504606846976) (W : World) :
    Calls Try.prog 12 #[.int .u64 w, .int .u64 poly, .int .u64 v, .int .i64 n] W fun e w' => e = .returned (.int .u64 (Poly.shift w poly v n : Nat)) ∧ Q W w' := by
  go_enter Try.func12, Try.ntmps12
  go_wp2_with fail
  refine (shift_any w poly v n hw hw' hp hv hn _).mono ?_
  rintro e w1 ⟨rfl, hq⟩
  go_wp2_with fail
  go_ret
  exact ⟨rfl, hq⟩
end Go.Proofs.Qxb6002910a
