import Derived.Test.Qxb6002910aWalkF
namespace Go.Proofs.Qxb6002910a
open Go.RowKit
set_option maxHeartbeats 1000000 in
theorem top6 (w poly v : Nat) (a b : Int) (hw : w < 18446744073709551616) (hp : poly < 18446744073709551616) (hv : v < 18446744073709551616) (W : World) :
    Calls Try.prog 6 #[.int .u64 w, .int .u64 poly, .int .u64 v, .int .i64 a, .int .i64 b] W fun e w' => e = .returned (.bool true) ∧ Q W w' := by
  by_cases c1 : w < 2
  · go_enter Try.func6, Try.ntmps6
    go_wp2_with fail
    go_ret
    exact ⟨rfl, Q.refl _⟩
  by_cases c2 : 64 < w
  · go_enter Try.func6, Try.ntmps6
    go_wp2_with fail
    go_ret
    exact ⟨rfl, Q.refl _⟩
  by_cases d1 : a < 0
  · go_enter Try.func6, Try.ntmps6
    go_wp2_with fail
    go_ret
    exact ⟨rfl, Q.refl _⟩
  by_cases d2 : 576460752303423488 < a
  · go_enter Try.func6, Try.ntmps6
    go_wp2_with fail
    go_ret
    exact ⟨rfl, Q.refl _⟩
  by_cases d3 : b < 0
  · go_enter Try.func6, Try.ntmps6
    go_wp2_with fail
    go_ret
    exact ⟨rfl, Q.refl _⟩
  by_cases d4 : 576460752303423488 < b
  · go_enter Try.func6, Try.ntmps6
    go_wp2_with fail
    go_ret
    exact ⟨rfl, Q.refl _⟩
  obtain ⟨k, rfl⟩ := Int.eq_ofNat_of_zero_le (show 0 ≤ a by omega)
  obtain ⟨l, rfl⟩ := Int.eq_ofNat_of_zero_le (show 0 ≤ b by omega)
  have hm : Hid (∀ W : World, Calls Try.prog 7 #[.int .u64 w] W fun e w' => e = .returned (.int .u64 ((2 ^ w - 1 : Nat) : Int)) ∧ w' = W) := fun W => mask_any w (by omega) W
  by_cases c3 : poly < 2 ^ w
  · have g3 := in_mask hp (by omega) c3
    by_cases c4 : v < 2 ^ w
    · have g4 := in_mask hv (by omega) c4
      have hs1 := (Poly.shift_eq (w := w) (poly := poly) (v := v) (n := k) (by omega) (by omega) c3 c4 (by omega)).1
      generalize hM : ((2 ^ w - 1 : Nat) : Int) = M at *
      go_enter Try.func6, Try.ntmps6
      go_wp2_with fail
      refine (hm.out _).mono ?_
      rintro e w1 ⟨rfl, rfl⟩
      go_wp2_with fail
      refine (zzShift_any w poly v k (by omega) (by omega) c3 c4 (by omega) _).mono ?_
      rintro e w2 ⟨rfl, hq⟩
      go_wp2_with fail
      refine (zzShift_any w poly _ l (by omega) (by omega) c3 hs1 (by omega) _).mono ?_
      rintro e w3 ⟨rfl, hq2⟩
      have hlaw2 := Poly.law_compose (w := w) (poly := poly) (v := v) (a := k) (b := l) (by omega) (by omega) c3 c4 (by omega)
      rw [hlaw2]
      clear hlaw2
      go_wp2_with fail
      rw [show ((k : Int) + (l : Int)) = ((k + l : Nat) : Int) from by omega]
      refine (zzShift_any w poly v (k + l) (by omega) (by omega) c3 c4 (by omega) _).mono ?_
      rintro e w4 ⟨rfl, hq3⟩
      have hself : ((Poly.shift w poly v (k + l) : Nat) : Int) == ((Poly.shift w poly v (k + l) : Nat) : Int) := by simp
      go_wp2_with fail
      rw [show ((k : Int) + (l : Int)) = ((k + l : Nat) : Int) from by omega]
      refine (model_any w poly v (k + l) (by omega) (by omega) hp hv (by omega) _).mono ?_
      rintro e w5 ⟨rfl, rfl⟩
      have hlaw := Poly.law_shift (w := w) (poly := poly) (v := v) (n := k + l) (by omega) (by omega) c3 c4 (by omega)
      rw [← hlaw]
      clear hlaw
      go_wp2_with fail
      go_ret
      exact ⟨bool_eq (by simp), (hq.trans hq2).trans hq3⟩
    · have g4 := out_mask hv (by omega) c4
      generalize hM : ((2 ^ w - 1 : Nat) : Int) = M at *
      go_enter Try.func6, Try.ntmps6
      go_wp2_with fail
      refine (hm.out _).mono ?_
      rintro e w1 ⟨rfl, rfl⟩
      go_wp2_with fail
      go_ret
      exact ⟨rfl, Q.refl _⟩
  · have g3 := out_mask hp (by omega) c3
    generalize hM : ((2 ^ w - 1 : Nat) : Int) = M at *
    go_enter Try.func6, Try.ntmps6
    go_wp2_with fail
    refine (hm.out _).mono ?_
    rintro e w1 ⟨rfl, rfl⟩
    go_wp2_with fail
    go_ret
    exact ⟨rfl, Q.refl _⟩
end Go.Proofs.Qxb6002910a
