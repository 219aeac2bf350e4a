import Derived.Test.Qxb6002910aWalkB
namespace Go.Proofs.Qxb6002910a
open Go.RowKit

theorem prod_yes {a b k : Nat} (h : b.testBit k = true) : Poly.prod a b (k + 1) = Poly.prod a b k ^^^ a <<< k := by
  simp [Poly.prod, Poly.sel, h]
theorem prod_no {a b k : Nat} (h : b.testBit k = false) : Poly.prod a b (k + 1) = Poly.prod a b k := by
  simp [Poly.prod, Poly.sel, h]
theorem div_yes {w g P k d : Nat} (hd : d + k = 127) (h : (Poly.divTo w g P k).testBit d = true) :
    Poly.divTo w g P (k + 1) = Poly.divTo w g P k ^^^ 1 <<< d ^^^ g <<< (d - w) := by
  have e : 127 - k = d := by omega
  simp [Poly.divTo, Poly.dstep, Poly.sel, e, h, Nat.shiftLeft_eq, Nat.xor_assoc]
theorem div_no {w g P k d : Nat} (hd : d + k = 127) (h : (Poly.divTo w g P k).testBit d = false) :
    Poly.divTo w g P (k + 1) = Poly.divTo w g P k := by
  have e : 127 - k = d := by omega
  simp [Poly.divTo, Poly.dstep, Poly.sel, e, h]
theorem shl64 {a k : Nat} (ha : a < 18446744073709551616) (hk : k < 64) : a <<< k < 2 ^ 128 := by
  refine Nat.lt_of_lt_of_le (Poly.shl_lt (w := 64) (s := k) ha) (Nat.pow_le_pow_right (by omega) (by omega))
theorem one_shl {d : Nat} (hd : d < 128) : 1 <<< d < 2 ^ 128 := by
  rw [Nat.shiftLeft_eq, Nat.one_mul]; exact Nat.pow_lt_pow_right (by omega) hd
theorem g_shl {w g d : Nat} (hg : g < 2 ^ w) (hd : w ≤ d) (hd' : d < 128) : g <<< (d - w) < 2 ^ 128 := by
  refine Nat.lt_of_lt_of_le (Poly.shl_lt (s := d - w) hg) (Nat.pow_le_pow_right (by omega) (by omega))
theorem div_lt128 {w g P k : Nat} (hg : g < 2 ^ w) (hP : P < 2 ^ 128) (hk : k ≤ 128 - w) : Poly.divTo w g P k < 2 ^ 128 :=
  Nat.lt_of_lt_of_le (Poly.divTo_lt hg hP k hk) (Nat.pow_le_pow_right (by omega) (by omega))

set_option maxHeartbeats 1000000 in
theorem mul_any (w g a b : Nat) (hw : 1 ≤ w) (hw' : w ≤ 64) (hg : g < 2 ^ w) (ha : a < 18446744073709551616) (hb : b < 18446744073709551616) (W : World) :
    Calls Try.prog 10 #[.int .u64 w, .int .u64 g, .int .u64 a, .int .u64 b] W fun e w' => e = .returned (.int .u64 (loOf (Poly.mulN w g a b) : Nat)) ∧ w' = W := by
  have hg' := lt_of hw' hg
  go_enter Try.func10, Try.ntmps10
  go_wp2
  go_loop [9, 10, 11] (fun h l i => ∃ k : Nat, k ≤ 64 ∧ i = .int .u64 k ∧ h = .int .u64 (hiOf (Poly.prod a b k) : Nat) ∧ l = .int .u64 (loOf (Poly.prod a b k) : Nat)) (fun _ _ i => 64 - (intOf i).toNat)
  case atStart => exact ⟨0, Nat.zero_le _, rfl, int_eq (by rw [Poly.prod, hiOf_zero]; rfl), int_eq (by rw [Poly.prod, loOf_zero]; rfl)⟩
  case round =>
    obtain ⟨k, hk, rfl, rfl, rfl⟩ := hrel
    have hPk := Poly.prod_lt ha b k hk
    by_cases hlt : k < 64
    · go_wp2_with fail
      · have hbt : (bits BinOp.and IntKind.u64 ((b : Int) / 2 ^ k) 1 != 0) = true := by assumption
        rw [bit_test hb] at hbt
        refine (xorShifted_any (Poly.prod a b k) a k hPk ha (by omega) (shl64 ha hlt) _).mono ?_
        rintro e w1 ⟨rfl, rfl⟩
        go_wp2_with fail
        go_round
        case rel => exact ⟨k + 1, by omega, by go_num, int_eq (by rw [prod_yes hbt]), int_eq (by rw [prod_yes hbt])⟩
        case measure => simp [intOf]; omega
      · have hbt : (bits BinOp.and IntKind.u64 ((b : Int) / 2 ^ k) 1 != 0) = false := by assumption
        rw [bit_test hb] at hbt
        go_round
        case rel => exact ⟨k + 1, by omega, by go_num, int_eq (by rw [prod_no hbt]), int_eq (by rw [prod_no hbt])⟩
        case measure => simp [intOf]; omega
    · obtain rfl : k = 64 := by omega
      go_wp2_with fail
      go_loop [9, 10, 12] (fun h l i => ∃ d k : Nat, d + k = 127 ∧ w ≤ d + 1 ∧ i = .int .i64 d ∧ h = .int .u64 (hiOf (Poly.divTo w g (Poly.prod a b 64) k) : Nat) ∧ l = .int .u64 (loOf (Poly.divTo w g (Poly.prod a b 64) k) : Nat)) (fun _ _ i => (intOf i).toNat + 1 - w)
      case atStart => exact ⟨127, 0, rfl, by omega, rfl, rfl, rfl⟩
      case round =>
        obtain ⟨d, j, hdj, hwd, rfl, rfl, rfl⟩ := hrel
        have hD := div_lt128 (k := j) hg hPk (by omega)
        by_cases hlt2 : w ≤ d
        · have hxl : Poly.divTo w g (Poly.prod a b 64) j ^^^ 1 <<< d < 2 ^ 128 := Nat.xor_lt_two_pow hD (one_shl (by omega))
          cases hbit : (Poly.divTo w g (Poly.prod a b 64) j).testBit d
          · have hno := div_no hdj hbit
            have HN : Hid (Poly.divTo w g (Poly.prod a b 64) (j + 1) = Poly.divTo w g (Poly.prod a b 64) j) := hno
            clear hno
            go_wp2_with fail
            refine (bit_any _ d hD (by omega) _).mono ?_
            rintro e w1 ⟨rfl, rfl⟩
            rw [hbit]
            go_wp2_with fail
            go_round
            case rel => exact ⟨d - 1, j + 1, by omega, by omega, by go_num, int_eq (by rw [HN.out]), int_eq (by rw [HN.out])⟩
            case measure => simp [intOf]; omega
          · have hyes := div_yes hdj hbit
            have HY : Hid (Poly.divTo w g (Poly.prod a b 64) (j + 1) = Poly.divTo w g (Poly.prod a b 64) j ^^^ 1 <<< d ^^^ g <<< (d - w)) := hyes
            clear hyes
            go_wp2_with fail
            refine (bit_any _ d hD (by omega) _).mono ?_
            rintro e w1 ⟨rfl, rfl⟩
            rw [hbit]
            go_wp2_with fail
            have c1 := xorShifted_any (Poly.divTo w g (Poly.prod a b 64) j) 1 d hD (by omega) (by omega) (one_shl (by omega)) w1
            rw [show ((1 : Nat) : Int) = 1 from rfl] at c1
            refine c1.mono ?_
            clear c1
            rintro e w2 ⟨rfl, rfl⟩
            go_wp2_with fail
            rw [show ((d : Int) - (w : Int)) = ((d - w : Nat) : Int) from by omega]
            refine (xorShifted_any _ g (d - w) hxl hg' (by omega) (g_shl hg hlt2 (by omega)) _).mono ?_
            rintro e w3 ⟨rfl, rfl⟩
            go_wp2_with fail
            go_round
            case rel => exact ⟨d - 1, j + 1, by omega, by omega, by go_num, int_eq (by rw [HY.out]), int_eq (by rw [HY.out])⟩
            case measure => simp [intOf]; omega
        · go_wp2_with fail
          go_ret
          exact ⟨ret_eq (by unfold Poly.mulN; rw [show 128 - w = j by omega]), rfl⟩
end Go.Proofs.Qxb6002910a
