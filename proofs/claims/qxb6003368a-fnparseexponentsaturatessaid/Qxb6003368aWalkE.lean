import Derived.Test.Qxb6003368aWalkD
import Derived.Deep.QuietTactic
import Derived.BigQuiet
namespace Go.Proofs.Qxb6003368a
open Go.RowKit

theorem sat_step {m : List UInt8} {k : Nat} (hk : k < m.length) (hb : 48 ≤ (m[k].toNat : Int)) :
    (if 1073741824 < ((sat (List.take k m) : Nat) : Int) * 10 + ((m[k].toNat : Int) - 48) then 1073741824 else ((sat (List.take k m) : Nat) : Int) * 10 + ((m[k].toNat : Int) - 48)) = ((sat (List.take (k + 1) m) : Nat) : Int) := by
  rw [List.take_succ_eq_append_getElem hk, sat_snoc]
  split <;> omega

set_option maxHeartbeats 1000000 in
theorem exp_plus (m : List UInt8) (hm : m.length ≤ 16777216) (hd : 0 < digs m) (W : World) :
    Calls Try.prog 25 #[.string (str (43 :: m))] W fun e w' => e = .returned (.tuple #[.int .i64 (sat (m.take (digs m)) : Nat), .string (str (m.drop (digs m))), .bool true]) ∧ Q W w' := by
  have hz : (str (43 :: m)).size = m.length + 1 := str_size _
  have hp : 0 < (str (43 :: m)).size := by omega
  have hp2 : (str (43 :: m)).size ≤ 16777217 := by omega
  clear hz
  have g0 : (str (43 :: m))[0] = 43 := str_get _ 0 _
  have e1 : (str (43 :: m)).extract 1 (str (43 :: m)).size = str m := str_drop _ 1
  have hdl := digs_le m
  have hn0 : (((digs m : Nat) : Int) == 0) = false := beq_eq_false_iff_ne.2 (by omega)
  go_enter Try.func25, Try.ntmps25
  go_wp2_with fail
  refine (skip_any m (by omega) _).mono ?_
  rintro e w1 ⟨rfl, rfl⟩
  go_wp2_with fail
  go_loop [7, 8, 33] (fun ex _ c => ∃ k : Nat, k ≤ digs m ∧ c = .int .i64 k ∧ ex = .int .i64 (sat (m.take k) : Nat)) (fun _ _ c => digs m - (intOf c).toNat)
  case atStart => exact ⟨0, Nat.zero_le _, rfl, rfl⟩
  case round =>
    obtain ⟨k, hk, rfl, rfl⟩ := hrel
    have hsl := sat_le m k (by omega)
    by_cases hlt : k < digs m
    · have hkm : k < m.length := by omega
      have hks : k < (str m).size := by rw [str_size]; exact hkm
      have gk : (str m)[k] = m[k] := str_get _ k _
      have bk := isD_bounds (digs_isD m k hkm hlt)
      go_wp2_with fail
      go_round
      case rel => exact ⟨k + 1, by omega, by go_num, int_eq (sat_step hkm bk.1)⟩
      case measure => simp [intOf]; omega
    · have hke : k = digs m := by omega
      subst hke
      have hks : digs m ≤ (str m).size := by rw [str_size]; exact hdl
      have hks2 : ((digs m : Nat) : Int) ≤ ((str m).size : Int) := by omega
      have ek : (str m).extract (digs m) (str m).size = str (m.drop (digs m)) := str_drop _ _
      go_wp2_with fail
      go_quiet (fail)
      go_wp2_with fail
      go_ret3
      exact ⟨rfl, (Q.refl _).drewN _⟩
set_option maxHeartbeats 1000000 in
theorem exp_minus (m : List UInt8) (hm : m.length ≤ 16777216) (hd : 0 < digs m) (W : World) :
    Calls Try.prog 25 #[.string (str (45 :: m))] W fun e w' => e = .returned (.tuple #[.int .i64 (-((sat (m.take (digs m)) : Nat) : Int)), .string (str (m.drop (digs m))), .bool true]) ∧ Q W w' := by
  have hz : (str (45 :: m)).size = m.length + 1 := str_size _
  have hp : 0 < (str (45 :: m)).size := by omega
  have hp2 : (str (45 :: m)).size ≤ 16777217 := by omega
  clear hz
  have g0 : (str (45 :: m))[0] = 45 := str_get _ 0 _
  have e1 : (str (45 :: m)).extract 1 (str (45 :: m)).size = str m := str_drop _ 1
  have hdl := digs_le m
  have hn0 : (((digs m : Nat) : Int) == 0) = false := beq_eq_false_iff_ne.2 (by omega)
  go_enter Try.func25, Try.ntmps25
  go_wp2_with fail
  refine (skip_any m (by omega) _).mono ?_
  rintro e w1 ⟨rfl, rfl⟩
  go_wp2_with fail
  go_loop [7, 8, 33] (fun ex _ c => ∃ k : Nat, k ≤ digs m ∧ c = .int .i64 k ∧ ex = .int .i64 (sat (m.take k) : Nat)) (fun _ _ c => digs m - (intOf c).toNat)
  case atStart => exact ⟨0, Nat.zero_le _, rfl, rfl⟩
  case round =>
    obtain ⟨k, hk, rfl, rfl⟩ := hrel
    have hsl := sat_le m k (by omega)
    by_cases hlt : k < digs m
    · have hkm : k < m.length := by omega
      have hks : k < (str m).size := by rw [str_size]; exact hkm
      have gk : (str m)[k] = m[k] := str_get _ k _
      have bk := isD_bounds (digs_isD m k hkm hlt)
      go_wp2_with fail
      go_round
      case rel => exact ⟨k + 1, by omega, by go_num, int_eq (sat_step hkm bk.1)⟩
      case measure => simp [intOf]; omega
    · have hke : k = digs m := by omega
      subst hke
      have hks : digs m ≤ (str m).size := by rw [str_size]; exact hdl
      have hks2 : ((digs m : Nat) : Int) ≤ ((str m).size : Int) := by omega
      have ek : (str m).extract (digs m) (str m).size = str (m.drop (digs m)) := str_drop _ _
      go_wp2_with fail
      go_quiet (fail)
      go_wp2_with fail
      go_ret3
      exact ⟨rfl, (Q.refl _).drewN _⟩
set_option maxHeartbeats 1000000 in
theorem exp_none (m : List UInt8) (hm : m.length ≤ 16777216) (hd : 0 < digs m) (W : World) :
    Calls Try.prog 25 #[.string (str m)] W fun e w' => e = .returned (.tuple #[.int .i64 (sat (m.take (digs m)) : Nat), .string (str (m.drop (digs m))), .bool true]) ∧ Q W w' := by
  have hdl0 := digs_le m
  have hz : (str m).size = m.length := str_size _
  have hp : 0 < (str m).size := by omega
  have hp2 : (str m).size ≤ 16777217 := by omega
  clear hz
  have g0 : (str m)[0] = m[0]'(by omega) := str_get _ 0 _
  have b0 := isD_bounds (digs_isD m 0 (by omega) hd)
  have q1 : (((m[0]'(by omega)).toNat : Int) == 43) = false := beq_eq_false_iff_ne.2 (by omega)
  have q2 : (((m[0]'(by omega)).toNat : Int) == 45) = false := beq_eq_false_iff_ne.2 (by omega)
  have hdl := digs_le m
  have hn0 : (((digs m : Nat) : Int) == 0) = false := beq_eq_false_iff_ne.2 (by omega)
  go_enter Try.func25, Try.ntmps25
  go_wp2_with fail
  refine (skip_any m (by omega) _).mono ?_
  rintro e w1 ⟨rfl, rfl⟩
  go_wp2_with fail
  go_loop [7, 8, 33] (fun ex _ c => ∃ k : Nat, k ≤ digs m ∧ c = .int .i64 k ∧ ex = .int .i64 (sat (m.take k) : Nat)) (fun _ _ c => digs m - (intOf c).toNat)
  case atStart => exact ⟨0, Nat.zero_le _, rfl, rfl⟩
  case round =>
    obtain ⟨k, hk, rfl, rfl⟩ := hrel
    have hsl := sat_le m k (by omega)
    by_cases hlt : k < digs m
    · have hkm : k < m.length := by omega
      have hks : k < (str m).size := by rw [str_size]; exact hkm
      have gk : (str m)[k] = m[k] := str_get _ k _
      have bk := isD_bounds (digs_isD m k hkm hlt)
      go_wp2_with fail
      go_round
      case rel => exact ⟨k + 1, by omega, by go_num, int_eq (sat_step hkm bk.1)⟩
      case measure => simp [intOf]; omega
    · have hke : k = digs m := by omega
      subst hke
      have hks : digs m ≤ (str m).size := by rw [str_size]; exact hdl
      have hks2 : ((digs m : Nat) : Int) ≤ ((str m).size : Int) := by omega
      have ek : (str m).extract (digs m) (str m).size = str (m.drop (digs m)) := str_drop _ _
      go_wp2_with fail
      go_quiet (fail)
      go_wp2_with fail
      go_ret3
      exact ⟨rfl, (Q.refl _).drewN _⟩

set_option maxHeartbeats 1000000 in
theorem fail_plus (m : List UInt8) (hm : m.length ≤ 16777216) (hd : digs m = 0) (W : World) :
    Calls Try.prog 25 #[.string (str (43 :: m))] W fun e w' => e = .returned (.tuple #[.int .i64 0, .string (str m), .bool false]) ∧ Q W w' := by
  have hz : (str (43 :: m)).size = m.length + 1 := str_size _
  have hp : 0 < (str (43 :: m)).size := by omega
  have hp2 : (str (43 :: m)).size ≤ 16777217 := by omega
  clear hz
  have g0 : (str (43 :: m))[0] = 43 := str_get _ 0 _
  have e1 : (str (43 :: m)).extract 1 (str (43 :: m)).size = str m := str_drop _ 1
  have HD : Hid (digs m = 0) := hd
  clear hd
  go_enter Try.func25, Try.ntmps25
  go_wp2_with fail
  refine (skip_any m (by omega) _).mono ?_
  rintro e w1 ⟨rfl, rfl⟩
  rw [HD.out]
  go_wp2_with fail
  go_ret3
  exact ⟨rfl, Q.refl _⟩

set_option maxHeartbeats 1000000 in
theorem fail_minus (m : List UInt8) (hm : m.length ≤ 16777216) (hd : digs m = 0) (W : World) :
    Calls Try.prog 25 #[.string (str (45 :: m))] W fun e w' => e = .returned (.tuple #[.int .i64 0, .string (str m), .bool false]) ∧ Q W w' := by
  have hz : (str (45 :: m)).size = m.length + 1 := str_size _
  have hp : 0 < (str (45 :: m)).size := by omega
  have hp2 : (str (45 :: m)).size ≤ 16777217 := by omega
  clear hz
  have g0 : (str (45 :: m))[0] = 45 := str_get _ 0 _
  have e1 : (str (45 :: m)).extract 1 (str (45 :: m)).size = str m := str_drop _ 1
  have HD : Hid (digs m = 0) := hd
  clear hd
  go_enter Try.func25, Try.ntmps25
  go_wp2_with fail
  refine (skip_any m (by omega) _).mono ?_
  rintro e w1 ⟨rfl, rfl⟩
  rw [HD.out]
  go_wp2_with fail
  go_ret3
  exact ⟨rfl, Q.refl _⟩

set_option maxHeartbeats 1000000 in
theorem fail_empty (W : World) :
    Calls Try.prog 25 #[.string (str [])] W fun e w' => e = .returned (.tuple #[.int .i64 0, .string (str []), .bool false]) ∧ Q W w' := by
  have hz : (str []).size = 0 := str_size _
  have HD : Hid (digs [] = 0) := rfl
  go_enter Try.func25, Try.ntmps25
  go_wp2_with fail
  refine (skip_any [] (by simp) _).mono ?_
  rintro e w1 ⟨rfl, rfl⟩
  rw [HD.out]
  go_wp2_with fail
  go_ret3
  exact ⟨rfl, Q.refl _⟩

set_option maxHeartbeats 1000000 in
theorem fail_none (c : UInt8) (m : List UInt8) (hm : m.length ≤ 16777215) (hd : digs (c :: m) = 0) (h1 : ((c.toNat : Int) == 43) = false) (h2 : ((c.toNat : Int) == 45) = false) (W : World) :
    Calls Try.prog 25 #[.string (str (c :: m))] W fun e w' => e = .returned (.tuple #[.int .i64 0, .string (str (c :: m)), .bool false]) ∧ Q W w' := by
  have hz : (str (c :: m)).size = m.length + 1 := str_size _
  have hp : 0 < (str (c :: m)).size := by omega
  have hp2 : (str (c :: m)).size ≤ 16777217 := by omega
  clear hz
  have g0 : (str (c :: m))[0] = c := str_get _ 0 _
  have HD : Hid (digs (c :: m) = 0) := hd
  clear hd
  go_enter Try.func25, Try.ntmps25
  go_wp2_with fail
  refine (skip_any (c :: m) (by simp; omega) _).mono ?_
  rintro e w1 ⟨rfl, rfl⟩
  rw [HD.out]
  go_wp2_with fail
  go_ret3
  exact ⟨rfl, Q.refl _⟩

/-- ZZparseExponent hands parseExponent's answer on -/
theorem zz_exp {s t : ByteArray} {n : Int} {ok : Bool} {W : World}
    (h : Calls Try.prog 25 #[.string s] W fun e w' => e = .returned (.tuple #[.int .i64 n, .string t, .bool ok]) ∧ Q W w') :
    Calls Try.prog 12 #[.string s] W fun e w' => e = .returned (.tuple #[.int .i64 n, .string t, .bool ok]) ∧ Q W w' := by
  have H : Hid _ := h
  clear h
  go_enter Try.func12, Try.ntmps12
  go_wp2_with fail
  refine Calls.mono H.out ?_
  rintro e w1 ⟨rfl, q1⟩
  go_wp2_with fail
  go_ret3
  exact ⟨rfl, q1⟩
end Go.Proofs.Qxb6003368a
