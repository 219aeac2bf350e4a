import Derived.Test.Qxb6003368aProg
import Derived.Test.Qxb6003368aQ
import Derived.Test.Qxb6003368aStr
import Derived.WalkKit
import Derived.WalkSpells
import Derived.WalkLawsBesides
import Derived.Laws.BytesArg
namespace Go.Proofs.Qxb6003368a
open Go.RowKit

/-- a digit's byte -/
def dg (n : Int) : UInt8 := UInt8.ofNat (48 + n).toNat
theorem dg_toNat {n : Int} (h0 : 0 ≤ n) (h1 : n ≤ 9) : ((dg n).toNat : Int) = 48 + n := by
  unfold dg
  rw [UInt8.toNat_ofNat']
  omega
theorem dg_isD {n : Int} (h0 : 0 ≤ n) (h1 : n ≤ 9) : isD (dg n) = true := by
  have := dg_toNat h0 h1
  exact isD_yes (by omega) (by omega)

set_option maxHeartbeats 400000 in
theorem two_any (n : Int) (h0 : 0 ≤ n) (h1 : n ≤ 99) (W : World) :
    Calls Try.prog 22 #[.int .i64 n] W fun e w' => e = .returned (.string (str [dg (n / 10), dg (n % 10)])) ∧ Q W w' := by
  have hcv : Sem.run Try.prog (convert 28 9 (Value.slice (some { block := W.heap.size, off := 0 }) 2 2)) (W.alloc (Obj.cells #[Value.int IntKind.u8 (48 + n / 10), Value.int IntKind.u8 (48 + n % 10)] 5)) = .ok (.string (str [dg (n / 10), dg (n % 10)])) (W.alloc (Obj.cells #[Value.int IntKind.u8 (48 + n / 10), Value.int IntKind.u8 (48 + n % 10)] 5)) := by
    refine run_convert_bytes_arg _ 28 5 Try.underlying28 Try.underlying5 W.heap.size 0 2 2 [48 + n / 10, 48 + n % 10] rfl ?_ 9 Try.underlying9
    intro i hi
    match i, hi with
    | 0, _ => simp
    | 1, _ => simp
  go_enter Try.func22, Try.ntmps22
  go_wp2
  go_ret
  exact ⟨rfl, (Q.refl W).alloc _ _⟩

set_option maxHeartbeats 400000 in
theorem skip_any (l : List UInt8) (hs : l.length ≤ 2 ^ 62) (W : World) :
    Calls Try.prog 29 #[.string (str l)] W fun e w' => e = .returned (.int .i64 (digs l : Nat)) ∧ w' = W := by
  have hz := str_size l
  have hb : (str l).size ≤ 2 ^ 62 := by rw [hz]; exact hs
  have HZ : Hid ((str l).size = l.length) := hz
  clear hz
  go_enter Try.func29, Try.ntmps29
  go_wp2
  go_loop [3] (fun i => ∃ k : Nat, k ≤ (str l).size ∧ k ≤ digs l ∧ i = .int .i64 k) (fun i => (str l).size - (intOf i).toNat)
  case atStart => exact ⟨0, Nat.zero_le _, Nat.zero_le _, rfl⟩
  case round =>
    obtain ⟨k, hk, hkd, rfl⟩ := hrel
    by_cases hlt : k < (str l).size
    · have hlt' : k < l.length := by rw [← HZ.out]; exact hlt
      have hg : (str l)[k] = l[k] := str_get l k hlt
      have HG : Hid ((str l)[k] = l[k]) := hg
      clear hg
      go_wp2
      · go_round
        case rel => exact ⟨k + 1, by omega, digs_step l k hlt' hkd (by rw [← HG.out]; exact isD_yes (by assumption) (by assumption)), by go_num⟩
        case measure => simp [intOf]; omega
      · go_ret
        exact ⟨ret_eq (by rw [digs_stop l k hlt' hkd (by rw [← HG.out]; exact isD_hi (by assumption))]), rfl⟩
      · go_ret
        exact ⟨ret_eq (by rw [digs_stop l k hlt' hkd (by rw [← HG.out]; exact isD_lo (by assumption))]), rfl⟩
    · go_wp2
      go_ret
      exact ⟨ret_eq (by have := digs_le l; have := HZ.out; omega), rfl⟩
end Go.Proofs.Qxb6003368a
