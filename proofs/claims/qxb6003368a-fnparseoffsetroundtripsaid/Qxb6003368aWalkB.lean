import Derived.Test.Qxb6003368aWalkA
import Derived.Deep.QuietTactic
import Derived.BigQuiet
namespace Go.Proofs.Qxb6003368a
open Go.RowKit
set_option maxHeartbeats 400000 in
theorem twoDigits_any (a b : UInt8) (rest : List UInt8) (hi : Int) (ha : isD a = true) (hb : isD b = true) (hr : rest.length ≤ 100) (W : World) :
    Calls Try.prog 34 #[.string (str (a :: b :: rest)), .int .i64 0, .int .i64 hi] W fun e w' => e = .returned (.tuple #[.int .i64 (((a.toNat : Int) - 48) * 10 + ((b.toNat : Int) - 48)), .bool (decide (((a.toNat : Int) - 48) * 10 + ((b.toNat : Int) - 48) ≤ hi))]) ∧ Q W w' := by
  have hz := str_size (a :: b :: rest)
  have hz2 : 2 ≤ (str (a :: b :: rest)).size := by rw [hz]; simp
  have hz3 : (str (a :: b :: rest)).size ≤ 102 := by rw [hz]; simp; omega
  have ha2 := isD_bounds ha
  have hb2 := isD_bounds hb
  clear hz
  have hex : (str (a :: b :: rest)).extract 0 2 = str [a, b] := by rw [str_extract]; rfl
  have g0 : (str (a :: b :: rest))[0]'(by omega) = a := str_get _ 0 _
  have g1 : (str (a :: b :: rest))[1]'(by omega) = b := str_get _ 1 _
  have hd : digs [a, b] = 2 := by simp [digs, ha, hb]
  go_enter Try.func34, Try.ntmps34
  go_wp2_with fail
  refine (skip_any [a, b] (by simp) _).mono ?_
  rintro e w1 ⟨rfl, rfl⟩
  rw [hd]
  go_wp2_with fail
  go_quiet (fail)
  go_wp2_with fail
  go_ret2
  exact ⟨rfl, (Q.refl _).drewN _⟩

/-- what the six bytes say -/
def mins (a b : UInt8) : Int := ((a.toNat : Int) - 48) * 10 + ((b.toNat : Int) - 48)

theorem mins_nonneg {a b : UInt8} (ha : isD a = true) (hb : isD b = true) : 0 ≤ mins a b ∧ mins a b ≤ 99 := by
  have h1 := isD_bounds ha
  have h2 := isD_bounds hb
  unfold mins; omega
theorem twoDigits_m (a b : UInt8) (rest : List UInt8) (hi : Int) (ha : isD a = true) (hb : isD b = true) (hr : rest.length ≤ 100) (W : World) :
    Calls Try.prog 34 #[.string (str (a :: b :: rest)), .int .i64 0, .int .i64 hi] W fun e w' => e = .returned (.tuple #[.int .i64 (mins a b), .bool (decide (mins a b ≤ hi))]) ∧ Q W w' :=
  twoDigits_any a b rest hi ha hb hr W

def sg (neg : Bool) : UInt8 := if neg then 45 else 43

/-- the facts of a six-byte text that the walk asks for -/
structure Six (s : ByteArray) (g a b c d : UInt8) : Prop where
  size : s.size = 6
  z : (s.toList == [90]) = false
  z' : (s.toList == [122]) = false
  at0 : ∀ h, s[0]'h = g
  at3 : ∀ h, s[3]'h = 58
  cut1 : s.extract 1 6 = str [a, b, 58, c, d]
  cut4 : s.extract 4 6 = str [c, d]
theorem six (g a b c d : UInt8) : Six (str [g, a, b, 58, c, d]) g a b c d :=
  ⟨str_size _, by rw [str_toList]; simp, by rw [str_toList]; simp, fun h => str_get _ 0 _, fun h => str_get _ 3 _, by rw [str_extract]; rfl, by rw [str_extract]; rfl⟩

set_option maxHeartbeats 1000000 in
theorem offset_good (neg : Bool) (a b c d : UInt8) (ha : isD a = true) (hb : isD b = true) (hc : isD c = true) (hd : isD d = true) (h1 : mins a b ≤ 23) (h2 : mins c d ≤ 59) (W : World) :
    Calls Try.prog 28 #[.string (str [sg neg, a, b, 58, c, d])] W fun e w' => e = .returned (.tuple #[.int .i64 (if neg then -(mins a b * 3600000000000 + mins c d * 60000000000) else mins a b * 3600000000000 + mins c d * 60000000000), .bool true]) ∧ Q W w' := by
  obtain ⟨hz, hq, hq', g0, g3, e1, e4⟩ := six (sg neg) a b c d
  generalize str [sg neg, a, b, 58, c, d] = s at *
  have n1 := mins_nonneg ha hb
  have n2 := mins_nonneg hc hd
  have d1 : decide (mins a b ≤ 23) = true := by simpa using h1
  have d2 : decide (mins c d ≤ 59) = true := by simpa using h2
  cases neg
  · replace g0 : ∀ h, s[0]'h = 43 := g0
    go_enter Try.func28, Try.ntmps28
    go_wp2_with fail
    refine (twoDigits_m a b _ 23 ha hb (by simp) _).mono ?_
    rintro e w1 ⟨rfl, q1⟩
    rw [d1]
    go_wp2_with fail
    refine (twoDigits_m c d _ 59 hc hd (by simp) _).mono ?_
    rintro e w2 ⟨rfl, q2⟩
    rw [d2]
    go_wp2_with fail
    go_ret2
    exact ⟨rfl, q1.trans q2⟩
  · replace g0 : ∀ h, s[0]'h = 45 := g0
    go_enter Try.func28, Try.ntmps28
    go_wp2_with fail
    refine (twoDigits_m a b _ 23 ha hb (by simp) _).mono ?_
    rintro e w1 ⟨rfl, q1⟩
    rw [d1]
    go_wp2_with fail
    refine (twoDigits_m c d _ 59 hc hd (by simp) _).mono ?_
    rintro e w2 ⟨rfl, q2⟩
    rw [d2]
    go_wp2_with fail
    go_ret2
    exact ⟨rfl, q1.trans q2⟩

set_option maxHeartbeats 1000000 in
theorem offset_hour (neg : Bool) (a b c d : UInt8) (ha : isD a = true) (hb : isD b = true) (hc : isD c = true) (hd : isD d = true) (h1 : 23 < mins a b) (W : World) :
    Calls Try.prog 28 #[.string (str [sg neg, a, b, 58, c, d])] W fun e w' => e = .returned (.tuple #[.int .i64 0, .bool false]) ∧ Q W w' := by
  obtain ⟨hz, hq, hq', g0, g3, e1, e4⟩ := six (sg neg) a b c d
  generalize str [sg neg, a, b, 58, c, d] = s at *
  have n1 := mins_nonneg ha hb
  have n2 := mins_nonneg hc hd
  have d1 : decide (mins a b ≤ 23) = false := by simpa using h1
  cases neg
  · replace g0 : ∀ h, s[0]'h = 43 := g0
    go_enter Try.func28, Try.ntmps28
    go_wp2_with fail
    refine (twoDigits_m a b _ 23 ha hb (by simp) _).mono ?_
    rintro e w1 ⟨rfl, q1⟩
    rw [d1]
    go_wp2_with fail
    refine (twoDigits_m c d _ 59 hc hd (by simp) _).mono ?_
    rintro e w2 ⟨rfl, q2⟩
    go_wp2_with fail
    go_ret2
    exact ⟨rfl, q1.trans q2⟩
  · replace g0 : ∀ h, s[0]'h = 45 := g0
    go_enter Try.func28, Try.ntmps28
    go_wp2_with fail
    refine (twoDigits_m a b _ 23 ha hb (by simp) _).mono ?_
    rintro e w1 ⟨rfl, q1⟩
    rw [d1]
    go_wp2_with fail
    refine (twoDigits_m c d _ 59 hc hd (by simp) _).mono ?_
    rintro e w2 ⟨rfl, q2⟩
    go_wp2_with fail
    go_ret2
    exact ⟨rfl, q1.trans q2⟩

set_option maxHeartbeats 1000000 in
theorem offset_minute (neg : Bool) (a b c d : UInt8) (ha : isD a = true) (hb : isD b = true) (hc : isD c = true) (hd : isD d = true) (h1 : mins a b ≤ 23) (h2 : 59 < mins c d) (W : World) :
    Calls Try.prog 28 #[.string (str [sg neg, a, b, 58, c, d])] W fun e w' => e = .returned (.tuple #[.int .i64 0, .bool false]) ∧ Q W w' := by
  obtain ⟨hz, hq, hq', g0, g3, e1, e4⟩ := six (sg neg) a b c d
  generalize str [sg neg, a, b, 58, c, d] = s at *
  have n1 := mins_nonneg ha hb
  have n2 := mins_nonneg hc hd
  have d1 : decide (mins a b ≤ 23) = true := by simpa using h1
  have d2 : decide (mins c d ≤ 59) = false := by simpa using h2
  cases neg
  · replace g0 : ∀ h, s[0]'h = 43 := g0
    go_enter Try.func28, Try.ntmps28
    go_wp2_with fail
    refine (twoDigits_m a b _ 23 ha hb (by simp) _).mono ?_
    rintro e w1 ⟨rfl, q1⟩
    rw [d1]
    go_wp2_with fail
    refine (twoDigits_m c d _ 59 hc hd (by simp) _).mono ?_
    rintro e w2 ⟨rfl, q2⟩
    rw [d2]
    go_wp2_with fail
    go_ret2
    exact ⟨rfl, q1.trans q2⟩
  · replace g0 : ∀ h, s[0]'h = 45 := g0
    go_enter Try.func28, Try.ntmps28
    go_wp2_with fail
    refine (twoDigits_m a b _ 23 ha hb (by simp) _).mono ?_
    rintro e w1 ⟨rfl, q1⟩
    rw [d1]
    go_wp2_with fail
    refine (twoDigits_m c d _ 59 hc hd (by simp) _).mono ?_
    rintro e w2 ⟨rfl, q2⟩
    rw [d2]
    go_wp2_with fail
    go_ret2
    exact ⟨rfl, q1.trans q2⟩

set_option maxHeartbeats 1000000 in
theorem offset_tail (g a b c d : UInt8) (W : World) :
    Calls Try.prog 28 #[.string (str [g, a, b, 58, c, d, 90])] W fun e w' => e = .returned (.tuple #[.int .i64 0, .bool false]) ∧ w' = W := by
  have hz : (str [g, a, b, 58, c, d, 90]).size = 7 := str_size _
  have hq : ((str [g, a, b, 58, c, d, 90]).toList == [90]) = false := by rw [str_toList]; simp
  have hq' : ((str [g, a, b, 58, c, d, 90]).toList == [122]) = false := by rw [str_toList]; simp
  generalize str [g, a, b, 58, c, d, 90] = s at *
  go_enter Try.func28, Try.ntmps28
  go_wp2_with fail
  go_ret2
  exact ⟨rfl, rfl⟩

/-- ZZparseOffset hands parseOffset's answer on -/
theorem zz_offset {s : ByteArray} {n : Int} {ok : Bool} {W : World}
    (h : Calls Try.prog 28 #[.string s] W fun e w' => e = .returned (.tuple #[.int .i64 n, .bool ok]) ∧ Q W w') :
    Calls Try.prog 23 #[.string s] W fun e w' => e = .returned (.tuple #[.int .i64 n, .bool ok]) ∧ Q W w' := by
  have H : Hid _ := h
  clear h
  go_enter Try.func23, Try.ntmps23
  go_wp2_with fail
  refine Calls.mono H.out ?_
  rintro e w1 ⟨rfl, q1⟩
  go_wp2_with fail
  go_ret2
  exact ⟨rfl, q1⟩
end Go.Proofs.Qxb6003368a
