import Derived.Test.Qxb6002910aProg
import Derived.Test.Qxb6002910aBits
import Derived.WalkKit
namespace Go.Proofs.Qxb6002910a
open Go.RowKit
set_option maxHeartbeats 400000 in
theorem rev_any (v w : Nat) (hv : v < 18446744073709551616) (hw : w ≤ 64) (W : World) :
    Calls Try.prog 9 #[.int .u64 v, .int .u64 w] W fun e w' => e = .returned (.int .u64 (Poly.rev w v : Nat)) ∧ w' = W := by
  go_enter Try.func9, Try.ntmps9
  go_wp2
  go_loop [5, 6] (fun r i => ∃ k : Nat, k ≤ w ∧ i = .int .u64 k ∧ r = .int .u64 (Poly.revTo w v k : Nat)) (fun _ i => w - (intOf i).toNat)
  case atStart => exact ⟨0, Nat.zero_le _, rfl, rfl⟩
  case round =>
    obtain ⟨k, hk, rfl, rfl⟩ := hrel
    by_cases hlt : k < w
    · go_wp2
      · have hb : (bits BinOp.and IntKind.u64 ((v : Int) / 2 ^ k) 1 != 0) = true := by assumption
        rw [bit_test hv] at hb
        go_round
        case rel => exact ⟨k + 1, by omega, by go_num, int_eq (by rw [revTo_yes hb, or_pow (lt_of hw (Poly.revTo_lt w v k hk)) (by omega)])⟩
        case measure => simp [intOf]; omega
      · have hb : (bits BinOp.and IntKind.u64 ((v : Int) / 2 ^ k) 1 != 0) = false := by assumption
        rw [bit_test hv] at hb
        go_round
        case rel => exact ⟨k + 1, by omega, by go_num, int_eq (by rw [revTo_no hb])⟩
        case measure => simp [intOf]; omega
    · go_wp2
      go_ret
      exact ⟨ret_eq (by rw [show k = w by omega]; rfl), rfl⟩
end Go.Proofs.Qxb6002910a
