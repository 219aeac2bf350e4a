import Derived.Test.Qxb6002910aProg
import Derived.Test.Qxb6002910aBits
import Derived.Test.Qxb6002910aQ
import Derived.WalkKit
namespace Go.Proofs.Qxb6002910a
open Go.RowKit
set_option maxHeartbeats 400000 in
theorem timesX_any (w poly v : Nat) (hv : v < 18446744073709551616) (hp : poly < 18446744073709551616) (W : World) :
    Calls Try.prog 14 #[.agg #[.int .u64 w, .int .u64 poly], .int .u64 v] W fun e w' => e = .returned (.int .u64 (Poly.tX poly v : Nat)) ∧ Q W w' := by
  go_enter Try.func14, Try.ntmps14
  go_wp2
  · have hb : (bits BinOp.and IntKind.u64 (v : Int) 1 != 0) = true := by assumption
    rw [bit_test0 hv] at hb
    go_ret
    exact ⟨ret_eq (tX_yes hv hp hb), (Q.refl W).alloc _ _⟩
  · have hb : (bits BinOp.and IntKind.u64 (v : Int) 1 != 0) = false := by assumption
    rw [bit_test0 hv] at hb
    go_ret
    exact ⟨ret_eq (tX_no hb), (Q.refl W).alloc _ _⟩

theorem pair_eq {a b c d : Int} (h : a = c) (k : b = d) : Ending.returned (.tuple #[.int .u64 a, .int .u64 b]) = .returned (.tuple #[.int .u64 c, .int .u64 d]) := by rw [h, k]
theorem bool_eq {a b : Bool} (h : a = b) : Ending.returned (.bool a) = .returned (.bool b) := by rw [h]

set_option maxHeartbeats 400000 in
theorem xorShifted_any (P g s : Nat) (hP : P < 2 ^ 128) (h3 : g < 18446744073709551616) (h4 : s < 128) (hx : g <<< s < 2 ^ 128) (W : World) :
    Calls Try.prog 15 #[.int .u64 (hiOf P : Nat), .int .u64 (loOf P : Nat), .int .u64 g, .int .u64 s] W fun e w' => e = .returned (.tuple #[.int .u64 (hiOf (P ^^^ g <<< s) : Nat), .int .u64 (loOf (P ^^^ g <<< s) : Nat)]) ∧ w' = W := by
  by_cases c0 : s = 0
  · subst c0
    have hx0 := xs_hi0 (P := P) h3
    have HX : Hid (hiOf (P ^^^ g <<< 0) = hiOf P) := hx0
    clear hx0 hx
    go_enter Try.func15, Try.ntmps15
    go_wp2
    go_ret2
    exact ⟨pair_eq (by rw [HX.out]) (xs_lo0 h3), rfl⟩
  · by_cases c1 : s < 64
    · go_enter Try.func15, Try.ntmps15
      go_wp2
      go_ret2
      exact ⟨pair_eq (xs_hi1 hP h3 c1) xs_lo1, rfl⟩
    · go_enter Try.func15, Try.ntmps15
      go_wp2
      go_ret2
      exact ⟨pair_eq (xs_hi2 hP (by omega) hx) (by rw [xs_lo2 (by omega)]), rfl⟩

set_option maxHeartbeats 400000 in
theorem bit_any (P d : Nat) (hP : P < 2 ^ 128) (h4 : d < 128) (W : World) :
    Calls Try.prog 16 #[.int .u64 (hiOf P : Nat), .int .u64 (loOf P : Nat), .int .u64 d] W fun e w' => e = .returned (.bool (P.testBit d)) ∧ w' = W := by
  by_cases c1 : d < 64
  · go_enter Try.func16, Try.ntmps16
    go_wp2
    go_ret
    exact ⟨bool_eq (bit_lo c1), rfl⟩
  · go_enter Try.func16, Try.ntmps16
    go_wp2
    go_ret
    exact ⟨bool_eq (bit_hi hP (by omega)), rfl⟩

set_option maxHeartbeats 400000 in
theorem mask_any (w : Nat) (h4 : w ≤ 64) (W : World) :
    Calls Try.prog 7 #[.int .u64 w] W fun e w' => e = .returned (.int .u64 ((2 ^ w - 1 : Nat) : Int)) ∧ w' = W := by
  go_enter Try.func7, Try.ntmps7
  go_wp2
  · go_ret
    exact ⟨ret_eq (mask_big h4 (by assumption)), rfl⟩
  · go_ret
    exact ⟨ret_eq (mask_small (by assumption)), rfl⟩
end Go.Proofs.Qxb6002910a
