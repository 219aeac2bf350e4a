import Derived.Test.Qxb6002910aWalkF
namespace Go.Proofs.Qxb6002910a
open Go.RowKit
set_option maxHeartbeats 1000000 in
theorem top5 (w poly v : Nat) (n : Int) (hw : w < 18446744073709551616) (hp : poly < 18446744073709551616) (hv : v < 18446744073709551616) (W : World) :
    Calls Try.prog 5 #[.int .u64 w, .int .u64 poly, .int .u64 v, .int .i64 n] W fun e w' => e = .returned (.bool true) ∧ Q W w' := by
  by_cases c1 : w < 2
  · go_enter Try.func5, Try.ntmps5
    go_wp2_with fail
    go_ret
    exact ⟨rfl, Q.refl _⟩
  by_cases c2 : 64 < w
  · go_enter Try.func5, Try.ntmps5
    go_wp2_with fail
    go_ret
    exact ⟨rfl, Q.refl _⟩
  by_cases d1 : n < 0
  · go_enter Try.func5, Try.ntmps5
    go_wp2_with fail
    go_ret
    exact ⟨rfl, Q.refl _⟩
  by_cases d2 : 1152921504606846976 < n
  · go_enter Try.func5, Try.ntmps5
    go_wp2_with fail
    go_ret
    exact ⟨rfl, Q.refl _⟩
  obtain ⟨k, rfl⟩ := Int.eq_ofNat_of_zero_le (show 0 ≤ n by omega)
  have hm : Hid (∀ W : World, Calls Try.prog 7 #[.int .u64 w] W fun e w' => e = .returned (.int .u64 ((2 ^ w - 1 : Nat) : Int)) ∧ w' = W) := fun W => mask_any w (by omega) W
  by_cases c3 : poly < 2 ^ w
  · have g3 := in_mask hp (by omega) c3
    by_cases c4 : v < 2 ^ w
    · have g4 := in_mask hv (by omega) c4
      generalize hM : ((2 ^ w - 1 : Nat) : Int) = M at *
      go_enter Try.func5, Try.ntmps5
      go_wp2_with fail
      refine (hm.out _).mono ?_
      rintro e w1 ⟨rfl, rfl⟩
      go_wp2_with fail
      refine (zzShift_any w poly v k (by omega) (by omega) c3 c4 (by omega) _).mono ?_
      rintro e w2 ⟨rfl, hq⟩
      go_wp2_with fail
      refine (model_any w poly v k (by omega) (by omega) hp hv (by omega) _).mono ?_
      rintro e w3 ⟨rfl, rfl⟩
      have hlaw := Poly.law_shift (w := w) (poly := poly) (v := v) (n := k) (by omega) (by omega) c3 c4 (by omega)
      rw [← hlaw]
      clear hlaw
      go_wp2_with fail
      go_ret
      exact ⟨bool_eq (by simp), hq⟩
    · have g4 := out_mask hv (by omega) c4
      generalize hM : ((2 ^ w - 1 : Nat) : Int) = M at *
      go_enter Try.func5, Try.ntmps5
      go_wp2_with fail
      refine (hm.out _).mono ?_
      rintro e w1 ⟨rfl, rfl⟩
      go_wp2_with fail
      go_ret
      exact ⟨rfl, Q.refl _⟩
  · have g3 := out_mask hp (by omega) c3
    generalize hM : ((2 ^ w - 1 : Nat) : Int) = M at *
    go_enter Try.func5, Try.ntmps5
    go_wp2_with fail
    refine (hm.out _).mono ?_
    rintro e w1 ⟨rfl, rfl⟩
    go_wp2_with fail
    go_ret
    exact ⟨rfl, Q.refl _⟩
end Go.Proofs.Qxb6002910a
