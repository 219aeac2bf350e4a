import Derived.Test.Qxb6003368aWalkB
namespace Go.Proofs.Qxb6003368a
open Go.RowKit

theorem mins_dg {n : Int} (h0 : 0 ≤ n) (h1 : n ≤ 99) : mins (dg (n / 10)) (dg (n % 10)) = n := by
  have e1 := dg_toNat (n := n / 10) (by omega) (by omega)
  have e2 := dg_toNat (n := n % 10) (by omega) (by omega)
  unfold mins; omega
theorem dgs {n : Int} (h0 : 0 ≤ n) (h1 : n ≤ 99) : isD (dg (n / 10)) = true ∧ isD (dg (n % 10)) = true :=
  ⟨dg_isD (by omega) (by omega), dg_isD (by omega) (by omega)⟩

theorem text_eq (g x y z t : UInt8) : (({ data := #[g] } : ByteArray) ++ str [x, y] ++ { data := #[58] } ++ str [z, t] : ByteArray) = str [g, x, y, 58, z, t] := by
  show str [g] ++ str [x, y] ++ str [58] ++ str [z, t] = _
  rw [str_append, str_append, str_append]; rfl
theorem tail_eq (g x y z t : UInt8) : (str [g, x, y, 58, z, t] ++ ({ data := #[90] } : ByteArray) : ByteArray) = str [g, x, y, 58, z, t, 90] := by
  show str [g, x, y, 58, z, t] ++ str [90] = _
  rw [str_append]; rfl

theorem tail_any (g a b c d : UInt8) (W : World) :
    Calls Try.prog 23 #[.string (str [g, a, b, 58, c, d, 90])] W fun e w' => e = .returned (.tuple #[.int .i64 0, .bool false]) ∧ Q W w' :=
  zz_offset ((offset_tail g a b c d W).mono fun e w' h => ⟨h.1, by rw [h.2]; exact Q.refl W⟩)

theorem good_false (h m : Int) (h0 : 0 ≤ h) (h1 : h ≤ 23) (m0 : 0 ≤ m) (m1 : m ≤ 59) (W : World) :
    Calls Try.prog 23 #[.string (str [43, dg (h / 10), dg (h % 10), 58, dg (m / 10), dg (m % 10)])] W fun e w' => e = .returned (.tuple #[.int .i64 (h * 3600000000000 + m * 60000000000), .bool true]) ∧ Q W w' := by
  have a1 := dgs h0 (show h ≤ 99 by omega)
  have a2 := dgs m0 (show m ≤ 99 by omega)
  have e1 := mins_dg h0 (show h ≤ 99 by omega)
  have e2 := mins_dg m0 (show m ≤ 99 by omega)
  have c := offset_good false _ _ _ _ a1.1 a1.2 a2.1 a2.2 (by rw [e1]; exact h1) (by rw [e2]; exact m1) W
  rw [e1, e2] at c
  exact zz_offset c
theorem hour_false (h m : Int) (h0 : 23 < h) (h1 : h ≤ 99) (m0 : 0 ≤ m) (m1 : m ≤ 99) (W : World) :
    Calls Try.prog 23 #[.string (str [43, dg (h / 10), dg (h % 10), 58, dg (m / 10), dg (m % 10)])] W fun e w' => e = .returned (.tuple #[.int .i64 0, .bool false]) ∧ Q W w' := by
  have a1 := dgs (show 0 ≤ h by omega) h1
  have a2 := dgs m0 m1
  have e1 := mins_dg (show 0 ≤ h by omega) h1
  exact zz_offset (offset_hour false _ _ _ _ a1.1 a1.2 a2.1 a2.2 (by rw [e1]; exact h0) W)
theorem minute_false (h m : Int) (h0 : 0 ≤ h) (h1 : h ≤ 23) (m0 : 59 < m) (m1 : m ≤ 99) (W : World) :
    Calls Try.prog 23 #[.string (str [43, dg (h / 10), dg (h % 10), 58, dg (m / 10), dg (m % 10)])] W fun e w' => e = .returned (.tuple #[.int .i64 0, .bool false]) ∧ Q W w' := by
  have a1 := dgs h0 (show h ≤ 99 by omega)
  have a2 := dgs (show 0 ≤ m by omega) m1
  have e1 := mins_dg h0 (show h ≤ 99 by omega)
  have e2 := mins_dg (show 0 ≤ m by omega) m1
  exact zz_offset (offset_minute false _ _ _ _ a1.1 a1.2 a2.1 a2.2 (by rw [e1]; exact h1) (by rw [e2]; exact m0) W)

theorem good_true (h m : Int) (h0 : 0 ≤ h) (h1 : h ≤ 23) (m0 : 0 ≤ m) (m1 : m ≤ 59) (W : World) :
    Calls Try.prog 23 #[.string (str [45, dg (h / 10), dg (h % 10), 58, dg (m / 10), dg (m % 10)])] W fun e w' => e = .returned (.tuple #[.int .i64 (-(h * 3600000000000 + m * 60000000000)), .bool true]) ∧ Q W w' := by
  have a1 := dgs h0 (show h ≤ 99 by omega)
  have a2 := dgs m0 (show m ≤ 99 by omega)
  have e1 := mins_dg h0 (show h ≤ 99 by omega)
  have e2 := mins_dg m0 (show m ≤ 99 by omega)
  have c := offset_good true _ _ _ _ a1.1 a1.2 a2.1 a2.2 (by rw [e1]; exact h1) (by rw [e2]; exact m1) W
  rw [e1, e2] at c
  exact zz_offset c
theorem hour_true (h m : Int) (h0 : 23 < h) (h1 : h ≤ 99) (m0 : 0 ≤ m) (m1 : m ≤ 99) (W : World) :
    Calls Try.prog 23 #[.string (str [45, dg (h / 10), dg (h % 10), 58, dg (m / 10), dg (m % 10)])] W fun e w' => e = .returned (.tuple #[.int .i64 0, .bool false]) ∧ Q W w' := by
  have a1 := dgs (show 0 ≤ h by omega) h1
  have a2 := dgs m0 m1
  have e1 := mins_dg (show 0 ≤ h by omega) h1
  exact zz_offset (offset_hour true _ _ _ _ a1.1 a1.2 a2.1 a2.2 (by rw [e1]; exact h0) W)
theorem minute_true (h m : Int) (h0 : 0 ≤ h) (h1 : h ≤ 23) (m0 : 59 < m) (m1 : m ≤ 99) (W : World) :
    Calls Try.prog 23 #[.string (str [45, dg (h / 10), dg (h % 10), 58, dg (m / 10), dg (m % 10)])] W fun e w' => e = .returned (.tuple #[.int .i64 0, .bool false]) ∧ Q W w' := by
  have a1 := dgs h0 (show h ≤ 99 by omega)
  have a2 := dgs (show 0 ≤ m by omega) m1
  have e1 := mins_dg h0 (show h ≤ 99 by omega)
  have e2 := mins_dg (show 0 ≤ m by omega) m1
  exact zz_offset (offset_minute true _ _ _ _ a1.1 a1.2 a2.1 a2.2 (by rw [e1]; exact h1) (by rw [e2]; exact m0) W)

set_option maxHeartbeats 1000000 in
theorem top6 (neg : Bool) (h m : Int) (W : World) :
    Calls Try.prog 6 #[.bool neg, .int .i64 h, .int .i64 m] W fun e w' => e = .returned (.bool true) ∧ Q W w' := by
  by_cases c1 : h < 0
  · go_enter Try.func6, Try.ntmps6
    go_wp2_with fail
    go_ret
    exact ⟨rfl, Q.refl _⟩
  by_cases c2 : 23 < h
  · go_enter Try.func6, Try.ntmps6
    go_wp2_with fail
    go_ret
    exact ⟨rfl, Q.refl _⟩
  by_cases c3 : m < 0
  · go_enter Try.func6, Try.ntmps6
    go_wp2_with fail
    go_ret
    exact ⟨rfl, Q.refl _⟩
  by_cases c4 : 59 < m
  · go_enter Try.func6, Try.ntmps6
    go_wp2_with fail
    go_ret
    exact ⟨rfl, Q.refl _⟩
  cases neg
  · go_enter Try.func6, Try.ntmps6
    go_wp2_with fail
    refine (two_any h (by omega) (by omega) _).mono ?_
    rintro e w1 ⟨rfl, q1⟩
    go_wp2_with fail
    refine (two_any m (by omega) (by omega) _).mono ?_
    rintro e w2 ⟨rfl, q2⟩
    go_wp2_with fail
    rw [text_eq]
    refine (good_false h m (by omega) (by omega) (by omega) (by omega) _).mono ?_
    rintro e w3 ⟨rfl, q3⟩
    go_wp2_with fail
    refine (two_any (h + 24) (by omega) (by omega) _).mono ?_
    rintro e w4 ⟨rfl, q4⟩
    go_wp2_with fail
    refine (two_any m (by omega) (by omega) _).mono ?_
    rintro e w5 ⟨rfl, q5⟩
    go_wp2_with fail
    rw [text_eq]
    refine (hour_false (h + 24) m (by omega) (by omega) (by omega) (by omega) _).mono ?_
    rintro e w6 ⟨rfl, q6⟩
    by_cases c5 : 20 ≤ m
    · go_wp2_with fail
      refine (two_any h (by omega) (by omega) _).mono ?_
      rintro e w7 ⟨rfl, q7⟩
      go_wp2_with fail
      refine (two_any (m + 40) (by omega) (by omega) _).mono ?_
      rintro e w8 ⟨rfl, q8⟩
      go_wp2_with fail
      rw [text_eq]
      refine (minute_false h (m + 40) (by omega) (by omega) (by omega) (by omega) _).mono ?_
      rintro e w9 ⟨rfl, q9⟩
      go_wp2_with fail
      rw [tail_eq]
      refine (tail_any _ _ _ _ _ _).mono ?_
      rintro e w10 ⟨rfl, q10⟩
      go_wp2_with fail
      go_ret
      exact ⟨rfl, ((((((((q1.trans q2).trans q3).trans q4).trans q5).trans q6).trans q7).trans q8).trans q9).trans q10⟩
    · go_wp2_with fail
      rw [tail_eq]
      refine (tail_any _ _ _ _ _ _).mono ?_
      rintro e w10 ⟨rfl, q10⟩
      go_wp2_with fail
      go_ret
      exact ⟨rfl, (((((q1.trans q2).trans q3).trans q4).trans q5).trans q6).trans q10⟩
  · go_enter Try.func6, Try.ntmps6
    go_wp2_with fail
    refine (two_any h (by omega) (by omega) _).mono ?_
    rintro e w1 ⟨rfl, q1⟩
    go_wp2_with fail
    refine (two_any m (by omega) (by omega) _).mono ?_
    rintro e w2 ⟨rfl, q2⟩
    go_wp2_with fail
    rw [text_eq]
    refine (good_true h m (by omega) (by omega) (by omega) (by omega) _).mono ?_
    rintro e w3 ⟨rfl, q3⟩
    go_wp2_with fail
    refine (two_any (h + 24) (by omega) (by omega) _).mono ?_
    rintro e w4 ⟨rfl, q4⟩
    go_wp2_with fail
    refine (two_any m (by omega) (by omega) _).mono ?_
    rintro e w5 ⟨rfl, q5⟩
    go_wp2_with fail
    rw [text_eq]
    refine (hour_true (h + 24) m (by omega) (by omega) (by omega) (by omega) _).mono ?_
    rintro e w6 ⟨rfl, q6⟩
    by_cases c5 : 20 ≤ m
    · go_wp2_with fail
      refine (two_any h (by omega) (by omega) _).mono ?_
      rintro e w7 ⟨rfl, q7⟩
      go_wp2_with fail
      refine (two_any (m + 40) (by omega) (by omega) _).mono ?_
      rintro e w8 ⟨rfl, q8⟩
      go_wp2_with fail
      rw [text_eq]
      refine (minute_true h (m + 40) (by omega) (by omega) (by omega) (by omega) _).mono ?_
      rintro e w9 ⟨rfl, q9⟩
      go_wp2_with fail
      rw [tail_eq]
      refine (tail_any _ _ _ _ _ _).mono ?_
      rintro e w10 ⟨rfl, q10⟩
      go_wp2_with fail
      go_ret
      exact ⟨rfl, ((((((((q1.trans q2).trans q3).trans q4).trans q5).trans q6).trans q7).trans q8).trans q9).trans q10⟩
    · go_wp2_with fail
      rw [tail_eq]
      refine (tail_any _ _ _ _ _ _).mono ?_
      rintro e w10 ⟨rfl, q10⟩
      go_wp2_with fail
      go_ret
      exact ⟨rfl, (((((q1.trans q2).trans q3).trans q4).trans q5).trans q6).trans q10⟩
end Go.Proofs.Qxb6003368a
