/-
  THE WALK's SPELLING OF uint64 ARITHMETIC, SAID OF NATURAL NUMBERS. No function of the program in sight.
-/
import Derived.WalkKit
import Derived.Test.Qxb6002910aMath
namespace Go.Proofs.Qxb6002910a

theorem div_cast (v k : Nat) : (v : Int) / 2 ^ k = ((v >>> k : Nat) : Int) := by
  rw [Nat.shiftRight_eq_div_pow]; simp

theorem shr_lt {v : Nat} (hv : v < 18446744073709551616) (k : Nat) : v >>> k < 18446744073709551616 := by
  rw [Nat.shiftRight_eq_div_pow]; exact Nat.lt_of_le_of_lt (Nat.div_le_self _ _) hv

theorem and_one (v : Nat) (hv : v < 18446744073709551616) : bits .and .u64 (v : Int) 1 = ((v % 2 : Nat) : Int) := by
  have h := u64_and_nat v 1 hv (by omega)
  rw [nat_mask1] at h
  exact h

/-- 'v >> k & 1 != 0' -/
theorem bit_test {v : Nat} (hv : v < 18446744073709551616) (k : Nat) : (bits .and .u64 ((v : Int) / 2 ^ k) 1 != 0) = v.testBit k := by
  rw [div_cast, and_one _ (shr_lt hv k), Nat.testBit_eq_decide_div_mod_eq, Nat.shiftRight_eq_div_pow]
  have h2 : v / 2 ^ k % 2 = 0 ∨ v / 2 ^ k % 2 = 1 := by omega
  rcases h2 with h | h <;> rw [h] <;> rfl

/-- 'v & 1 != 0' -/
theorem bit_test0 {v : Nat} (hv : v < 18446744073709551616) : (bits .and .u64 (v : Int) 1 != 0) = v.testBit 0 := by
  have := bit_test hv 0
  rwa [Int.pow_zero, Int.ediv_one] at this

theorem pow_lt {s : Nat} (hs : s < 64) : 2 ^ s < 18446744073709551616 :=
  Nat.pow_lt_pow_right (a := 2) (n := 64) (by omega) hs

theorem wrap_nat {n : Nat} (h : n < 18446744073709551616) : IntKind.u64.wrap (n : Int) = (n : Int) := by
  rw [IntKind.wrap_u64]; omega

theorem wrap_pow {s : Nat} (hs : s < 64) : IntKind.u64.wrap (2 ^ s) = ((2 ^ s : Nat) : Int) := by
  have h := wrap_nat (pow_lt hs)
  rwa [Int.natCast_pow] at h ⊢

theorem lt_of {w v : Nat} (hw : w ≤ 64) (hv : v < 2 ^ w) : v < 18446744073709551616 :=
  Nat.lt_of_lt_of_le hv (Nat.pow_le_pow_right (n := 2) (j := 64) (by omega) hw)

/-- 'r |= 1 << s' -/
theorem or_pow {r s : Nat} (hr : r < 18446744073709551616) (hs : s < 64) : bits .or .u64 (r : Int) (IntKind.u64.wrap (2 ^ s)) = ((r ||| 2 ^ s : Nat) : Int) := by
  rw [wrap_pow hs, u64_or_nat _ _ hr (pow_lt hs)]

theorem int_eq {a b : Int} (h : a = b) : Value.int .u64 a = Value.int .u64 b := by rw [h]
theorem ret_eq {a b : Int} (h : a = b) : Ending.returned (.int .u64 a) = .returned (.int .u64 b) := by rw [h]

theorem revTo_yes {w v k : Nat} (h : v.testBit k = true) : Poly.revTo w v (k + 1) = Poly.revTo w v k ||| 2 ^ (w - 1 - k) := by
  simp [Poly.revTo, h]
theorem revTo_no {w v k : Nat} (h : v.testBit k = false) : Poly.revTo w v (k + 1) = Poly.revTo w v k := by
  simp [Poly.revTo, h]

/-! ### timesX -/
theorem xor_cast {a b : Nat} (ha : a < 18446744073709551616) (hb : b < 18446744073709551616) : bits .xor .u64 (a : Int) (b : Int) = ((a ^^^ b : Nat) : Int) :=
  u64_xor_nat a b ha hb
theorem half_cast (v : Nat) : (v : Int) / (2 : Int) = Int.ofNat (v >>> 1) := by
  have := div_cast v 1
  rwa [Int.pow_one] at this
theorem tX_yes {poly v : Nat} (hv : v < 18446744073709551616) (hp : poly < 18446744073709551616) (h : v.testBit 0 = true) :
    bits .xor .u64 ((v : Int) / 2) (poly : Int) = ((Poly.tX poly v : Nat) : Int) := by
  rw [half_cast]
  refine (xor_cast (shr_lt hv 1) hp).trans ?_
  simp [Poly.tX, Poly.sel, h]
theorem tX_no {poly v : Nat} (h : v.testBit 0 = false) : (v : Int) / 2 = ((Poly.tX poly v : Nat) : Int) := by
  rw [half_cast]
  simp [Poly.tX, Poly.sel, h]

/-! ### 128 bits in two halves -/
def hiOf (P : Nat) : Nat := P >>> 64
def loOf (P : Nat) : Nat := P % 2 ^ 64

theorem testBit_hiOf (P j : Nat) : (hiOf P).testBit j = P.testBit (64 + j) := by
  unfold hiOf; rw [Nat.testBit_shiftRight]
theorem testBit_loOf (P j : Nat) : (loOf P).testBit j = (decide (j < 64) && P.testBit j) := by
  unfold loOf; rw [Nat.testBit_mod_two_pow]
theorem hiOf_lt {P : Nat} (h : P < 2 ^ 128) : hiOf P < 18446744073709551616 := by
  unfold hiOf; rw [Nat.shiftRight_eq_div_pow]
  exact Nat.div_lt_of_lt_mul (show P < 2 ^ 64 * 2 ^ 64 by rw [← Nat.pow_add]; exact h)
theorem loOf_lt (P : Nat) : loOf P < 18446744073709551616 := Nat.mod_lt _ (by decide)
theorem hiOf_zero : hiOf 0 = 0 := rfl
theorem loOf_zero : loOf 0 = 0 := rfl
theorem loOf_small {P w : Nat} (hw : w ≤ 64) (h : P < 2 ^ w) : loOf P = P := Nat.mod_eq_of_lt (lt_of hw h)

theorem wrap_shl {g s : Nat} : IntKind.u64.wrap ((g : Int) * 2 ^ s) = (((g <<< s) % 2 ^ 64 : Nat) : Int) := by
  rw [IntKind.wrap_u64, Nat.shiftLeft_eq]; simp
theorem shl_mod_lt (g s : Nat) : (g <<< s) % 2 ^ 64 < 18446744073709551616 := Nat.mod_lt _ (by decide)

theorem xs_hi0 {P g : Nat} (hg : g < 18446744073709551616) : hiOf (P ^^^ g <<< 0) = hiOf P := by
  apply Nat.eq_of_testBit_eq; intro j
  rw [testBit_hiOf, testBit_hiOf, Nat.shiftLeft_zero, Nat.testBit_xor, Poly.bit_high (n := 64) hg (by omega)]; simp
theorem xs_lo0 {P g : Nat} (hg : g < 18446744073709551616) : bits .xor .u64 (loOf P : Int) (g : Int) = ((loOf (P ^^^ g <<< 0) : Nat) : Int) := by
  rw [xor_cast (loOf_lt P) hg]
  congr 1
  apply Nat.eq_of_testBit_eq; intro j
  rw [Nat.testBit_xor, testBit_loOf, testBit_loOf, Nat.shiftLeft_zero, Nat.testBit_xor]
  by_cases hj : j < 64
  · simp [hj]
  · rw [Poly.bit_high (n := 64) (i := j) hg (by omega)]; simp [hj]
theorem xs_hi1 {P g s : Nat} (hP : P < 2 ^ 128) (hg : g < 18446744073709551616) (hs : s < 64) :
    bits .xor .u64 (hiOf P : Int) ((g : Int) / 2 ^ (64 - s)) = ((hiOf (P ^^^ g <<< s) : Nat) : Int) := by
  rw [div_cast, xor_cast (hiOf_lt hP) (shr_lt hg _)]
  congr 1
  apply Nat.eq_of_testBit_eq; intro j
  rw [Nat.testBit_xor, testBit_hiOf, testBit_hiOf, Nat.testBit_xor, Nat.testBit_shiftRight, Nat.testBit_shiftLeft]
  have d : decide (64 + j ≥ s) = true := by simp; omega
  rw [d, show 64 - s + j = 64 + j - s by omega]; simp
theorem xs_lo1 {P g s : Nat} : bits .xor .u64 (loOf P : Int) (IntKind.u64.wrap ((g : Int) * 2 ^ s)) = ((loOf (P ^^^ g <<< s) : Nat) : Int) := by
  rw [wrap_shl, xor_cast (loOf_lt P) (shl_mod_lt g s)]
  congr 1
  apply Nat.eq_of_testBit_eq; intro j
  rw [Nat.testBit_xor, testBit_loOf, testBit_loOf, Nat.testBit_xor, Nat.testBit_mod_two_pow]
  by_cases hj : j < 64 <;> simp [hj]
theorem xs_hi2 {P g s : Nat} (hP : P < 2 ^ 128) (hs : 64 ≤ s) (hx : g <<< s < 2 ^ 128) :
    bits .xor .u64 (hiOf P : Int) (IntKind.u64.wrap ((g : Int) * 2 ^ (s - 64))) = ((hiOf (P ^^^ g <<< s) : Nat) : Int) := by
  rw [wrap_shl, xor_cast (hiOf_lt hP) (shl_mod_lt g (s - 64))]
  congr 1
  apply Nat.eq_of_testBit_eq; intro j
  rw [Nat.testBit_xor, testBit_hiOf, testBit_hiOf, Nat.testBit_xor, Nat.testBit_mod_two_pow]
  congr 1
  by_cases hj : j < 64
  · have d : decide (j < 64) = true := by simp; omega
    rw [d, Nat.testBit_shiftLeft, Nat.testBit_shiftLeft, show 64 + j - s = j - (s - 64) by omega, Bool.true_and]
    congr 1
    rw [decide_eq_decide]; omega
  · have d : decide (j < 64) = false := by simp; omega
    rw [d, Poly.bit_high (i := 64 + j) hx (by omega)]; rfl
theorem xs_lo2 {P g s : Nat} (hs : 64 ≤ s) : loOf (P ^^^ g <<< s) = loOf P := by
  apply Nat.eq_of_testBit_eq; intro j
  rw [testBit_loOf, testBit_loOf, Nat.testBit_xor, Nat.testBit_shiftLeft]
  by_cases hj : j < 64
  · have d : decide (j ≥ s) = false := by simp; omega
    rw [d]; simp
  · simp [hj]

theorem bit_hi {P d : Nat} (hP : P < 2 ^ 128) (hd : 64 ≤ d) : (bits .and .u64 ((hiOf P : Int) / 2 ^ (d - 64)) 1 != 0) = P.testBit d := by
  rw [bit_test (hiOf_lt hP), testBit_hiOf, show 64 + (d - 64) = d by omega]
theorem bit_lo {P d : Nat} (hd : d < 64) : (bits .and .u64 ((loOf P : Int) / 2 ^ d) 1 != 0) = P.testBit d := by
  rw [bit_test (loOf_lt P), testBit_loOf]; simp [hd]

/-! ### The mask -/
theorem mask_big {w : Nat} (h : w ≤ 64) (h' : 64 ≤ (w : Int)) : (18446744073709551615 : Int) = ((2 ^ w - 1 : Nat) : Int) := by
  have : w = 64 := by omega
  subst this; rfl
theorem mask_small {w : Nat} (h : (w : Int) < 64) : IntKind.u64.wrap (IntKind.u64.wrap (2 ^ w) - 1) = ((2 ^ w - 1 : Nat) : Int) := by
  have hw : w < 64 := by omega
  have h2 := pow_lt hw
  have h3 := Nat.two_pow_pos w
  rw [wrap_pow hw, show ((2 ^ w : Nat) : Int) - 1 = ((2 ^ w - 1 : Nat) : Int) by omega]
  exact wrap_nat (by omega)
/-- 'p &^ m != 0' -/
theorem outside {p w : Nat} (hp : p < 18446744073709551616) (hw : w ≤ 64) : (bits .andNot .u64 (p : Int) ((2 ^ w - 1 : Nat) : Int) != 0) = decide (2 ^ w ≤ p) := by
  have h3 := Nat.two_pow_pos w
  have h4 : 2 ^ w ≤ 18446744073709551616 := Nat.pow_le_pow_right (n := 2) (j := 64) (by omega) hw
  rw [u64_andNot_nat p (2 ^ w - 1) hp (by omega)]
  have e : 18446744073709551615 - (2 ^ w - 1) = 2 ^ 64 - 2 ^ w := by omega
  rw [e]
  have key : p &&& (2 ^ 64 - 2 ^ w) = 0 ↔ p < 2 ^ w := by
    have hb : ∀ j, (2 ^ 64 - 2 ^ w : Nat).testBit j = (decide (j < 64) && decide (w ≤ j)) := by
      intro j
      have := Nat.testBit_two_pow_sub_succ (x := 2 ^ w - 1) (n := 64) (by omega) j
      rw [show 2 ^ w - 1 + 1 = 2 ^ w by omega] at this
      rw [this, Nat.testBit_two_pow_sub_one]
      by_cases c : j < w
      · have d1 : decide (w ≤ j) = false := by simp; omega
        simp [c, d1]
      · have d1 : decide (w ≤ j) = true := by simp; omega
        simp [c, d1]
    constructor
    · intro h
      apply Poly.lt_pow_of_bits
      intro i hi
      by_cases hi2 : i < 64
      · have h5 : (p &&& (2 ^ 64 - 2 ^ w)).testBit i = false := by rw [h]; simp
        rw [Nat.testBit_and, hb] at h5
        have d1 : decide (i < 64) = true := by simp; omega
        have d2 : decide (w ≤ i) = true := by simp; omega
        rwa [d1, d2, Bool.and_true, Bool.and_true] at h5
      · exact Poly.bit_high (n := 64) hp (by omega)
    · intro h
      apply Nat.eq_of_testBit_eq
      intro i
      rw [Nat.testBit_and, hb]
      by_cases c : w ≤ i
      · rw [Poly.bit_high h c]; simp
      · simp [c]
  by_cases c : 2 ^ w ≤ p
  · have : p &&& (2 ^ 64 - 2 ^ w) ≠ 0 := fun h => by have := key.1 h; omega
    simp only [c, decide_true, bne_iff_ne, ne_eq]
    omega
  · have : p &&& (2 ^ 64 - 2 ^ w) = 0 := key.2 (by omega)
    rw [this]; simp [c]
end Go.Proofs.Qxb6002910a
