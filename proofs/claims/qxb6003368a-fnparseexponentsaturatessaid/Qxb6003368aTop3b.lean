import Derived.Test.Qxb6003368aTop3
namespace Go.Proofs.Qxb6003368a
open Go.RowKit

set_option maxHeartbeats 1000000 in
theorem guards (neg plus : Bool) (lead v : Int) (s : ByteArray) (hz : s.size ≤ 1048576) (h : lead < 0 ∨ 64 < lead ∨ v < 0 ∨ 1099511627776 < v) (W : World) :
    Calls Try.prog 3 #[.bool neg, .bool plus, .int .i64 lead, .int .i64 v, .string s] W fun e w' => e = .returned (.bool true) ∧ Q W w' := by
  by_cases c1 : lead < 0
  · go_enter Try.func3, Try.ntmps3
    go_wp2_with fail
    refine (bytes_yes _ _ _ _ _ hz _).mono ?_
    rintro e w1 ⟨rfl, rfl⟩
    go_wp2_with fail
    go_ret
    exact ⟨rfl, Q.refl _⟩
  by_cases c2 : 64 < lead
  · go_enter Try.func3, Try.ntmps3
    go_wp2_with fail
    refine (bytes_yes _ _ _ _ _ hz _).mono ?_
    rintro e w1 ⟨rfl, rfl⟩
    go_wp2_with fail
    go_ret
    exact ⟨rfl, Q.refl _⟩
  by_cases c3 : v < 0
  · go_enter Try.func3, Try.ntmps3
    go_wp2_with fail
    refine (bytes_yes _ _ _ _ _ hz _).mono ?_
    rintro e w1 ⟨rfl, rfl⟩
    go_wp2_with fail
    go_ret
    exact ⟨rfl, Q.refl _⟩
  have c4 : 1099511627776 < v := by omega
  clear h
  go_enter Try.func3, Try.ntmps3
  go_wp2_with fail
  refine (bytes_yes _ _ _ _ _ hz _).mono ?_
  rintro e w1 ⟨rfl, rfl⟩
  go_wp2_with fail
  go_ret
  exact ⟨rfl, Q.refl _⟩

set_option maxHeartbeats 1000000 in
theorem long (neg plus : Bool) (lead v : Int) (s : ByteArray) (hz : 1048576 < s.size) (W : World) :
    Calls Try.prog 3 #[.bool neg, .bool plus, .int .i64 lead, .int .i64 v, .string s] W fun e w' => e = .returned (.bool true) ∧ Q W w' := by
  go_enter Try.func3, Try.ntmps3
  go_wp2_with fail
  refine (bytes_no _ _ _ _ _ hz _).mono ?_
  rintro e w1 ⟨rfl, rfl⟩
  go_wp2_with fail
  go_ret
  exact ⟨rfl, Q.refl _⟩

set_option maxHeartbeats 1000000 in
theorem digit_first (neg plus : Bool) (n v : Nat) (s : ByteArray) (c : UInt8) (hz : s.size ≤ 1048576) (hp : 0 < s.size) (g0 : s[0] = c) (hn : n ≤ 64) (hv : v ≤ 1099511627776) (hc : isD c = true) (W : World) :
    Calls Try.prog 3 #[.bool neg, .bool plus, .int .i64 n, .int .i64 v, .string s] W fun e w' => e = .returned (.bool true) ∧ Q W w' := by
  go_enter Try.func3, Try.ntmps3
  go_wp2_with fail
  refine (bytes_yes _ _ _ _ _ hz _).mono ?_
  rintro e w1 ⟨rfl, rfl⟩
  go_wp2_with fail
  refine (isDigit_any c _).mono ?_
  rintro e w2 ⟨rfl, rfl⟩
  rw [hc]
  go_wp2_with fail
  go_ret
  exact ⟨rfl, Q.refl _⟩

theorem top3 (neg plus : Bool) (lead v : Int) (s : ByteArray) (W : World) :
    Calls Try.prog 3 #[.bool neg, .bool plus, .int .i64 lead, .int .i64 v, .string s] W fun e w' => e = .returned (.bool true) ∧ Q W w' := by
  by_cases hz : 1048576 < s.size
  · exact long neg plus lead v s hz W
  by_cases hg : lead < 0 ∨ 64 < lead ∨ v < 0 ∨ 1099511627776 < v
  · exact guards neg plus lead v s (by omega) hg W
  obtain ⟨n, rfl⟩ := Int.eq_ofNat_of_zero_le (show 0 ≤ lead by omega)
  obtain ⟨m, rfl⟩ := Int.eq_ofNat_of_zero_le (show 0 ≤ v by omega)
  rw [str_of s] at hz ⊢
  generalize s.data.toList = r at hz ⊢
  have hr1 : r.length ≤ 1048576 := by rw [str_size] at hz; omega
  cases r with
  | nil =>
    cases neg with
    | true => exact arm_neg_nil plus n m (by omega) (by omega) W
    | false =>
      cases plus with
      | true => exact arm_plus_nil n m (by omega) (by omega) W
      | false => exact arm_none_nil n m (by omega) (by omega) W
  | cons c t =>
    cases hc : isD c with
    | true => exact digit_first neg plus n m (str (c :: t)) c (by omega) (by rw [str_size]; simp) (str_get _ 0 _) (by omega) (by omega) hc W
    | false =>
      cases neg with
      | true => exact arm_neg_cons plus n m (c :: t) hr1 (by omega) (by omega) c t rfl hc W
      | false =>
        cases plus with
        | true => exact arm_plus_cons n m (c :: t) hr1 (by omega) (by omega) c t rfl hc W
        | false =>
          by_cases h1 : (c.toNat : Int) = 43
          · exact arm_none_c43 n m (c :: t) hr1 (by omega) (by omega) c t rfl hc h1 W
          · by_cases h2 : (c.toNat : Int) = 45
            · exact arm_none_c45 n m (c :: t) hr1 (by omega) (by omega) c t rfl hc h2 W
            · exact arm_none_other n m (c :: t) hr1 (by omega) (by omega) c t rfl hc (beq_eq_false_iff_ne.2 h1) (beq_eq_false_iff_ne.2 h2) W
end Go.Proofs.Qxb6003368a
