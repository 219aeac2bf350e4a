import Derived.Test.Qxb6002910aWalkF
namespace Go.Proofs.Qxb6002910a
open Go.RowKit
set_option maxHeartbeats 1000000 in
theorem top4 (w poly u v : Nat) (hw : w < 18446744073709551616) (hp : poly < 18446744073709551616) (hu : u < 18446744073709551616) (hv : v < 18446744073709551616) (W : World) :
    Calls Try.prog 4 #[.int .u64 w, .int .u64 poly, .int .u64 u, .int .u64 v] W fun e w' => e = .returned (.bool true) ∧ Q W w' := by
  by_cases c1 : w < 1
  · go_enter Try.func4, Try.ntmps4
    go_wp2_with fail
    go_ret
    exact ⟨rfl, Q.refl _⟩
  by_cases c2 : 64 < w
  · go_enter Try.func4, Try.ntmps4
    go_wp2_with fail
    go_ret
    exact ⟨rfl, Q.refl _⟩
  have hm : Hid (∀ W : World, Calls Try.prog 7 #[.int .u64 w] W fun e w' => e = .returned (.int .u64 ((2 ^ w - 1 : Nat) : Int)) ∧ w' = W) := fun W => mask_any w (by omega) W
  by_cases c3 : poly < 2 ^ w
  · have g3 := in_mask hp (by omega) c3
    by_cases c5 : u < 2 ^ w
    · have g5 := in_mask hu (by omega) c5
      by_cases c4 : v < 2 ^ w
      · have g4 := in_mask hv (by omega) c4
        generalize hM : ((2 ^ w - 1 : Nat) : Int) = M at *
        go_enter Try.func4, Try.ntmps4
        go_wp2_with fail
        refine (hm.out _).mono ?_
        rintro e w1 ⟨rfl, rfl⟩
        go_wp2_with fail
        refine (zzTimes_any w poly u v (by omega) (by omega) c3 hu c4 _).mono ?_
        rintro e w2 ⟨rfl, hq⟩
        go_wp2_with fail
        refine (rev_any poly w hp (by omega) _).mono ?_
        rintro e w3 ⟨rfl, rfl⟩
        go_wp2_with fail
        refine (rev_any u w hu (by omega) _).mono ?_
        rintro e w4 ⟨rfl, rfl⟩
        go_wp2_with fail
        refine (rev_any v w hv (by omega) _).mono ?_
        rintro e w5 ⟨rfl, rfl⟩
        go_wp2_with fail
        refine (mulr_any w _ _ _ (by omega) (by omega) (Poly.rev_lt w poly) (Poly.rev_lt w u) (lt_of (by omega) (Poly.rev_lt w v)) _).mono ?_
        rintro e w6 ⟨rfl, rfl⟩
        go_wp2_with fail
        refine (rev_any _ w (mulr_lt (by omega) (Poly.rev_lt w poly) (Poly.rev_lt w u) _) (by omega) _).mono ?_
        rintro e w7 ⟨rfl, rfl⟩
        have hlaw := Poly.law_times (w := w) (poly := poly) (u := u) (v := v) (by omega) (by omega) c3 c4
        rw [← hlaw]
        clear hlaw
        go_wp2_with fail
        go_ret
        exact ⟨bool_eq (by simp), hq⟩
      · have g4 := out_mask hv (by omega) c4
        generalize hM : ((2 ^ w - 1 : Nat) : Int) = M at *
        go_enter Try.func4, Try.ntmps4
        go_wp2_with fail
        refine (hm.out _).mono ?_
        rintro e w1 ⟨rfl, rfl⟩
        go_wp2_with fail
        go_ret
        exact ⟨rfl, Q.refl _⟩
    · have g5 := out_mask hu (by omega) c5
      generalize hM : ((2 ^ w - 1 : Nat) : Int) = M at *
      go_enter Try.func4, Try.ntmps4
      go_wp2_with fail
      refine (hm.out _).mono ?_
      rintro e w1 ⟨rfl, rfl⟩
      go_wp2_with fail
      go_ret
      exact ⟨rfl, Q.refl _⟩
  · have g3 := out_mask hp (by omega) c3
    generalize hM : ((2 ^ w - 1 : Nat) : Int) = M at *
    go_enter Try.func4, Try.ntmps4
    go_wp2_with fail
    refine (hm.out _).mono ?_
    rintro e w1 ⟨rfl, rfl⟩
    go_wp2_with fail
    go_ret
    exact ⟨rfl, Q.refl _⟩
end Go.Proofs.Qxb6002910a
