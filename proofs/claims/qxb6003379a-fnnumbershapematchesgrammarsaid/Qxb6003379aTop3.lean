import Derived.Test.Qxb6003379aShape
import Derived.Test.Qxb6003379aDfa
namespace Go.Proofs.Qxb6003379a
open Go.RowKit

set_option maxHeartbeats 400000 in
theorem short_no (s : ByteArray) (h : 1048576 < s.size) (W : World) :
    Calls Try.prog 7 #[.string s] W fun e w' => e = .returned (.bool false) ∧ w' = W := by
  have h2 : (1048576 : Int) < (s.size : Int) := by omega
  go_enter Try.func7, Try.ntmps7
  go_wp2
  go_ret
  exact ⟨rfl, rfl⟩
set_option maxHeartbeats 400000 in
theorem short_yes (s : ByteArray) (h : s.size ≤ 1048576) (W : World) :
    Calls Try.prog 7 #[.string s] W fun e w' => e = .returned (.bool true) ∧ w' = W := by
  have h2 : (s.size : Int) ≤ 1048576 := by omega
  go_enter Try.func7, Try.ntmps7
  go_wp2
  go_ret
  exact ⟨rfl, rfl⟩

set_option maxHeartbeats 400000 in
theorem zz_shape (l : List UInt8) (hl : l.length ≤ 1048576) (W : World) :
    Calls Try.prog 8 #[.string (str l)] W fun e w' => ∃ kd : Int, e = .returned (.tuple #[.int .u8 kd, .bool (shape l).isSome]) ∧ (∀ K, shape l = some K → kd = K) ∧ Q W w' := by
  go_enter Try.func8, Try.ntmps8
  go_wp2_with fail
  refine (shape_any l hl _).mono ?_
  rintro e w1 ⟨kd, rfl, hK, hq⟩
  have HK : Hid (∀ K, shape l = some K → kd = K) := hK
  clear hK
  go_wp2_with fail
  go_ret2
  exact ⟨kd, rfl, HK.out, hq⟩

set_option maxHeartbeats 1000000 in
theorem guard3 (s : ByteArray) (h : 1048576 < s.size) (W : World) :
    Calls Try.prog 3 #[.string s] W fun e w' => e = .returned (.bool true) ∧ Q W w' := by
  go_enter Try.func3, Try.ntmps3
  go_wp2_with fail
  refine (short_no _ h _).mono ?_
  rintro e w1 ⟨rfl, rfl⟩
  go_wp2_with fail
  go_ret
  exact ⟨rfl, Q.refl _⟩

set_option maxHeartbeats 1000000 in
theorem main3 (l : List UInt8) (hl : l.length ≤ 1048576) (W : World) :
    Calls Try.prog 3 #[.string (str l)] W fun e w' => e = .returned (.bool true) ∧ Q W w' := by
  have hz : (str l).size ≤ 1048576 := by rw [str_size]; exact hl
  have hlaw := run0 l
  cases hsh : shape l with
  | none =>
    rw [hsh] at hlaw
    have HL : Hid (run 0 l = (false, false)) := hlaw
    have HS : Hid (shape l = none) := hsh
    clear hlaw hsh
    go_enter Try.func3, Try.ntmps3
    go_wp2_with fail
    refine (short_yes _ hz _).mono ?_
    rintro e w1 ⟨rfl, rfl⟩
    go_wp2_with fail
    refine (zz_shape l hl _).mono ?_
    rintro e w2 ⟨kd, rfl, hK, hq⟩
    clear hK
    rw [HS.out]
    go_wp2_with fail
    refine (dfa_any l hl _).mono ?_
    rintro e w3 ⟨rfl, rfl⟩
    rw [HL.out]
    go_wp2_with fail
    go_ret
    exact ⟨rfl, hq⟩
  | some K =>
    rcases shape_kind l K hsh with rfl | rfl
    · rw [hsh] at hlaw
      have HL : Hid (run 0 l = (true, false)) := hlaw
      have HS : Hid (shape l = some 5) := hsh
      clear hlaw hsh
      go_enter Try.func3, Try.ntmps3
      go_wp2_with fail
      refine (short_yes _ hz _).mono ?_
      rintro e w1 ⟨rfl, rfl⟩
      go_wp2_with fail
      refine (zz_shape l hl _).mono ?_
      rintro e w2 ⟨kd, rfl, hK, hq⟩
      obtain rfl := hK 5 HS.out
      clear hK
      rw [HS.out]
      go_wp2_with fail
      refine (dfa_any l hl _).mono ?_
      rintro e w3 ⟨rfl, rfl⟩
      rw [HL.out]
      go_wp2_with fail
      go_ret
      exact ⟨rfl, hq⟩
    · rw [hsh] at hlaw
      have HL : Hid (run 0 l = (true, true)) := hlaw
      have HS : Hid (shape l = some 6) := hsh
      clear hlaw hsh
      go_enter Try.func3, Try.ntmps3
      go_wp2_with fail
      refine (short_yes _ hz _).mono ?_
      rintro e w1 ⟨rfl, rfl⟩
      go_wp2_with fail
      refine (zz_shape l hl _).mono ?_
      rintro e w2 ⟨kd, rfl, hK, hq⟩
      obtain rfl := hK 6 HS.out
      clear hK
      rw [HS.out]
      go_wp2_with fail
      refine (dfa_any l hl _).mono ?_
      rintro e w3 ⟨rfl, rfl⟩
      rw [HL.out]
      go_wp2_with fail
      go_ret
      exact ⟨rfl, hq⟩

theorem top3 (s : ByteArray) (W : World) :
    Calls Try.prog 3 #[.string s] W fun e w' => e = .returned (.bool true) ∧ Q W w' := by
  by_cases hz : 1048576 < s.size
  · exact guard3 s hz W
  · rw [str_of s] at hz ⊢
    generalize s.data.toList = r at hz ⊢
    exact main3 r (by rw [str_size] at hz; omega) W
end Go.Proofs.Qxb6003379a
