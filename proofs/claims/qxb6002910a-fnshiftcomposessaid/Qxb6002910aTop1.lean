import Derived.Test.Qxb6002910aWalkA
import Derived.Test.Qxb6002910aWalkC
import Derived.OpenShut
namespace Go.Proofs.Qxb6002910a
open Go.RowKit

set_option maxHeartbeats 400000 in
theorem zzTimesX_any (w poly v : Nat) (hv : v < 18446744073709551616) (hp : poly < 18446744073709551616) (W : World) :
    Calls Try.prog 8 #[.int .u64 w, .int .u64 poly, .int .u64 v] W fun e w' => e = .returned (.int .u64 (Poly.tX poly v : Nat)) ∧ Q W w' := by
  go_enter Try.func8, Try.ntmps8
  go_wp2_with fail
  refine (timesX_any w poly v hv hp _).mono ?_
  rintro e w1 ⟨rfl, hq⟩
  go_wp2_with fail
  go_ret
  exact ⟨rfl, hq⟩

theorem mulr_any (w g a b : Nat) (hw : 1 ≤ w) (hw' : w ≤ 64) (hg : g < 2 ^ w) (ha : a < 2 ^ w) (hb : b < 18446744073709551616) (W : World) :
    Calls Try.prog 10 #[.int .u64 w, .int .u64 g, .int .u64 a, .int .u64 b] W fun e w' => e = .returned (.int .u64 (Poly.mulN w g a b : Nat)) ∧ w' = W := by
  have h := mul_any w g a b hw hw' hg (lt_of hw' ha) hb W
  rwa [loOf_small hw' (Poly.mulN_lt hw' hg ha b)] at h
theorem mulr_lt {w g a : Nat} (hw' : w ≤ 64) (hg : g < 2 ^ w) (ha : a < 2 ^ w) (b : Nat) : Poly.mulN w g a b < 18446744073709551616 :=
  lt_of hw' (Poly.mulN_lt hw' hg ha b)

/-- inside the width, or out of it: the guards of the laws -/
theorem in_mask {p w : Nat} (hp : p < 18446744073709551616) (hw : w ≤ 64) (h : p < 2 ^ w) : (bits .andNot .u64 (p : Int) ((2 ^ w - 1 : Nat) : Int) != 0) = false := by
  rw [outside hp hw]; simp; omega
theorem out_mask {p w : Nat} (hp : p < 18446744073709551616) (hw : w ≤ 64) (h : ¬ p < 2 ^ w) : (bits .andNot .u64 (p : Int) ((2 ^ w - 1 : Nat) : Int) != 0) = true := by
  rw [outside hp hw]; simp; omega

set_option maxHeartbeats 1000000 in
theorem top1 (w poly v : Nat) (hw : w < 18446744073709551616) (hp : poly < 18446744073709551616) (hv : v < 18446744073709551616) (W : World) :
    Calls Try.prog 3 #[.int .u64 w, .int .u64 poly, .int .u64 v] W fun e w' => e = .returned (.bool true) ∧ Q W w' := by
  by_cases c1 : w < 1
  · go_enter Try.func3, Try.ntmps3
    go_wp2_with fail
    go_ret
    exact ⟨rfl, Q.refl _⟩
  by_cases c2 : 64 < w
  · go_enter Try.func3, Try.ntmps3
    go_wp2_with fail
    go_ret
    exact ⟨rfl, Q.refl _⟩
  have hm : Hid (∀ W : World, Calls Try.prog 7 #[.int .u64 w] W fun e w' => e = .returned (.int .u64 ((2 ^ w - 1 : Nat) : Int)) ∧ w' = W) := fun W => mask_any w (by omega) W
  by_cases c3 : poly < 2 ^ w
  · have g3 := in_mask hp (by omega) c3
    by_cases c4 : v < 2 ^ w
    · have g4 := in_mask hv (by omega) c4
      generalize hM : ((2 ^ w - 1 : Nat) : Int) = M at *
      go_enter Try.func3, Try.ntmps3
      go_wp2_with fail
      refine (hm.out _).mono ?_
      rintro e w1 ⟨rfl, rfl⟩
      go_wp2_with fail
      refine (zzTimesX_any w poly v hv hp _).mono ?_
      rintro e w2 ⟨rfl, hq⟩
      go_wp2_with fail
      refine (rev_any poly w hp (by omega) _).mono ?_
      rintro e w3 ⟨rfl, rfl⟩
      go_wp2_with fail
      refine (rev_any v w hv (by omega) _).mono ?_
      rintro e w4 ⟨rfl, rfl⟩
      go_wp2_with fail
      have c5 := mulr_any w (Poly.rev w poly) (Poly.rev w v) 2 (by omega) (by omega) (Poly.rev_lt w poly) (Poly.rev_lt w v) (by omega) w4
      rw [show ((2 : Nat) : Int) = 2 from rfl] at c5
      refine c5.mono ?_
      clear c5
      rintro e w5 ⟨rfl, rfl⟩
      go_wp2_with fail
      refine (rev_any _ w (mulr_lt (by omega) (Poly.rev_lt w poly) (Poly.rev_lt w v) 2) (by omega) _).mono ?_
      rintro e w6 ⟨rfl, rfl⟩
      have hlaw := Poly.law_timesX (w := w) (poly := poly) (v := v) (by omega) (by omega) c3 c4
      rw [← hlaw]
      clear hlaw
      go_wp2_with fail
      go_ret
      exact ⟨bool_eq (by simp), hq⟩
    · have g4 := out_mask hv (by omega) c4
      generalize hM : ((2 ^ w - 1 : Nat) : Int) = M at *
      go_enter Try.func3, Try.ntmps3
      go_wp2_with fail
      refine (hm.out _).mono ?_
      rintro e w1 ⟨rfl, rfl⟩
      go_wp2_with fail
      go_ret
      exact ⟨rfl, Q.refl _⟩
  · have g3 := out_mask hp (by omega) c3
    generalize hM : ((2 ^ w - 1 : Nat) : Int) = M at *
    go_enter Try.func3, Try.ntmps3
    go_wp2_with fail
    refine (hm.out _).mono ?_
    rintro e w1 ⟨rfl, rfl⟩
    go_wp2_with fail
    go_ret
    exact ⟨rfl, Q.refl _⟩
end Go.Proofs.Qxb6002910a
