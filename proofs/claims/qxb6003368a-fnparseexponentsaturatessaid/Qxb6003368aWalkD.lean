import Derived.Test.Qxb6003368aWalkC
import Derived.Test.Qxb6003368aNum
namespace Go.Proofs.Qxb6003368a
open Go.RowKit

/-- the state of zzItoa's loop: u is what is left of v, acc the digits so far, p the place of the first -/
structure Digits (v u p : Nat) (acc : List UInt8) : Prop where
  all : ∀ c ∈ acc, isD c = true
  sum : u * 10 ^ acc.length + val acc = v
  len : p + acc.length = 24
  room : u < 10 ^ p
  small : u ≤ 1099511627776
  index : p ≤ 24

theorem Digits.start {v : Nat} (hv : v ≤ 1099511627776) : Digits v v 24 [] :=
  ⟨by simp, by simp [val], rfl, by omega, hv, Nat.le_refl _⟩
theorem Digits.more {v u p : Nat} {acc : List UInt8} (h : Digits v u p acc) (hu : u ≠ 0) : ∃ q, p = q + 1 := by
  cases p with
  | zero => have := h.room; simp at this; omega
  | succ q => exact ⟨q, rfl⟩
theorem Digits.step {v u q : Nat} {acc : List UInt8} (h : Digits v u (q + 1) acc) : Digits v (u / 10) q (dg ((u : Int) % 10) :: acc) := by
  have e1 := dg_toNat (n := (u : Int) % 10) (by omega) (by omega)
  have e2 : (dg ((u : Int) % 10)).toNat - 48 = u % 10 := by omega
  refine ⟨?_, ?_, ?_, ?_, ?_, ?_⟩
  · intro c hc
    rcases List.mem_cons.1 hc with rfl | hc
    · exact dg_isD (by omega) (by omega)
    · exact h.all c hc
  · rw [val_cons, e2, List.length_cons, Nat.pow_succ, ← Nat.add_assoc, ← h.sum]
    congr 1
    have : u = 10 * (u / 10) + u % 10 := by omega
    generalize u / 10 = a at *
    generalize u % 10 = b at *
    subst this
    rw [Nat.add_mul, Nat.mul_comm (10 ^ acc.length) 10, ← Nat.mul_assoc, Nat.mul_comm a 10]
  · have := h.len; simp; omega
  · have := h.room; rw [Nat.pow_succ] at this; omega
  · have := h.small; omega
  · have := h.index; omega

theorem zero24 : ∀ i, i < 24 → (#[Value.int IntKind.u8 0, Value.int IntKind.u8 0, Value.int IntKind.u8 0, Value.int IntKind.u8 0,
          Value.int IntKind.u8 0, Value.int IntKind.u8 0, Value.int IntKind.u8 0, Value.int IntKind.u8 0,
          Value.int IntKind.u8 0, Value.int IntKind.u8 0, Value.int IntKind.u8 0, Value.int IntKind.u8 0,
          Value.int IntKind.u8 0, Value.int IntKind.u8 0, Value.int IntKind.u8 0, Value.int IntKind.u8 0,
          Value.int IntKind.u8 0, Value.int IntKind.u8 0, Value.int IntKind.u8 0, Value.int IntKind.u8 0,
          Value.int IntKind.u8 0, Value.int IntKind.u8 0, Value.int IntKind.u8 0, Value.int IntKind.u8 0] : Array Value)[i]? = some (.int .u8 ((fun _ => 0 : Nat → Int) i)) := by
  intro i hi
  rcases i with _|_|_|_|_|_|_|_|_|_|_|_|_|_|_|_|_|_|_|_|_|_|_|_|i
  all_goals first | rfl | omega

theorem under41 : Try.prog.underlying 41 = some (.array (Try.prog.arrayLen 41) (Try.prog.elem 41)) := by kernel_rfl
theorem len41 : Try.prog.arrayLen 41 = 24 := by kernel_rfl
theorem elem41 : Try.prog.elem 41 = 5 := by kernel_rfl
/-- 'buf[p:]' -/
theorem slice24 (B p : Nat) (hp : p < 24) (w : World) :
    (Instr.sliceAt 41 (.pointer (some ⟨B, 0, none⟩)) (some (.int .i64 p)) none none).run Try.prog w = .ok (.slice (some ⟨B, p, none⟩) (24 - p) (24 - p)) w := by
  obtain ⟨i, hi, hz0, hz1, hz2⟩ := info_parts info5
  have hs : (Go.sizeOf 5).run Try.prog w = .ok 1 w := by simp [Go.sizeOf, typeInfo, hi, hz1]
  have hne : ¬ 24 = p := by omega
  rw [run_sliceAt_array_l w 41 _ under41 .i64 p (by omega) (by rw [len41]; omega), elem41, hs, len41]
  simp [slicedAt, Addr.add, Result.andThen, hne]
  omega

set_option maxHeartbeats 1000000 in
theorem itoa_any (v : Nat) (hv : v ≤ 1099511627776) (W : World) :
    Calls Try.prog 11 #[.int .i64 v] W fun e w' => ∃ ds : List UInt8, e = .returned (.string (str ds)) ∧ (∀ c ∈ ds, isD c = true) ∧ ds ≠ [] ∧ val ds = v ∧ ds.length ≤ 24 ∧ Q W w' := by
  by_cases h0 : v = 0
  · subst h0
    go_enter Try.func11, Try.ntmps11
    go_wp2
    go_ret
    exact ⟨[48], rfl, by simp [isD], by simp, rfl, by simp, Q.refl _⟩
  · have hpos : 0 < v := by omega
    have hb0 : ((v : Int) == 0) = false := beq_eq_false_iff_ne.2 (by omega)
    have hd0 : decide ((v : Int) < 0) = false := by simp
    go_enter Try.func11, Try.ntmps11
    go_wp2
    go_loopw [4, 6] (fun us is wr => ∃ (u p : Nat) (acc : List UInt8) (f : Nat → Int), Digits v u p acc ∧ us = .int .u64 u ∧ is = .int .i64 p ∧ Row W W.heap.size 24 f wr ∧ (∀ i (h : i < acc.length), f (p + i) = (acc[i].toNat : Int))) (fun us _ _ => (intOf us).toNat)
    case atStart => exact ⟨v, 24, [], fun _ => 0, Digits.start hv, rfl, rfl, Row.fresh zero24, by simp⟩
    case round =>
      obtain ⟨u, p, acc, f, hD, rfl, rfl, hrow, hf⟩ := hrel
      have hul := hD.small
      have hpl := hD.index
      by_cases hu : u = 0
      · subst hu
        have hne : acc ≠ [] := by
          rintro rfl
          have := hD.sum
          simp [val] at this
          omega
        have hlen : 0 < acc.length := List.length_pos_iff.2 hne
        have hl := hD.len
        have ht := hrow.text p (24 - p) (24 - p) (by omega) acc (by omega) hf
        have hsl := slice24 W.heap.size p (by omega)
        have hv2 : val acc = v := by have := hD.sum; simpa using this
        have HV : Hid (val acc = v) := hv2
        clear hv2 hl
        go_wp2
        go_ret
        exact ⟨acc, rfl, hD.all, hne, HV.out, by have := hD.len; omega, hrow.q⟩
      · have hu0 : 0 < u := by omega
        obtain ⟨q, rfl⟩ := hD.more hu
        have hc := hrow.cells q (by omega)
        have hfz := hrow.free q
        have e1 := dg_toNat (n := (u : Int) % 10) (by omega) (by omega)
        have HE : Hid (((dg ((u : Int) % 10)).toNat : Int) = 48 + (u : Int) % 10) := e1
        clear e1
        go_wp2
        go_roundw
        case rel =>
          refine ⟨u / 10, q, dg ((u : Int) % 10) :: acc, _, hD.step, int_eq (by omega), rfl, hrow.set (k := q) (by omega) (48 + (u : Int) % 10), ?_⟩
          intro i hi
          cases i with
          | zero => simp [HE.out]
          | succ i =>
            have h2 := hf i (by simpa using hi)
            rw [if_neg (by omega), show q + (i + 1) = q + 1 + i by omega, h2]
            simp
        case measure => simp [intOf]; omega
end Go.Proofs.Qxb6003368a
