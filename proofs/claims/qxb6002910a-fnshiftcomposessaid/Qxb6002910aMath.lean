/-
  THE PLAIN LAW OF SEAT b6002910a: polynomials over GF(2) as natural numbers, modulo x^w + g. No Go in sight.
-/
namespace Go.Proofs.Qxb6002910a.Poly

/-! ### Small facts on bits -/
theorem xor_self_cancel (a b : Nat) : a ^^^ (a ^^^ b) = b := by
  rw [← Nat.xor_assoc, Nat.xor_self, Nat.zero_xor]

theorem xor4 (a b c d : Nat) : (a ^^^ b) ^^^ (c ^^^ d) = (a ^^^ c) ^^^ (b ^^^ d) := by
  apply Nat.eq_of_testBit_eq
  intro i
  simp only [Nat.testBit_xor]
  cases a.testBit i <;> cases b.testBit i <;> cases c.testBit i <;> cases d.testBit i <;> rfl

theorem lt_pow_of_bits (a n : Nat) (h : ∀ i, n ≤ i → a.testBit i = false) : a < 2 ^ n :=
  Nat.lt_pow_two_of_testBit a h

theorem bit_high {a n i : Nat} (h : a < 2 ^ n) (hi : n ≤ i) : a.testBit i = false :=
  Nat.testBit_lt_two_pow (Nat.lt_of_lt_of_le h (Nat.pow_le_pow_right (by omega) hi))

/-- the number a where b says so, else nought -/
def sel (b : Bool) (a : Nat) : Nat := if b then a else 0

theorem sel_xor (b : Bool) (x y : Nat) : sel b (x ^^^ y) = sel b x ^^^ sel b y := by
  cases b <;> simp [sel]
theorem sel_bxor (b c : Bool) (x : Nat) : sel (b ^^ c) x = sel b x ^^^ sel c x := by
  cases b <;> cases c <;> simp [sel]
theorem testBit_sel (b : Bool) (x i : Nat) : (sel b x).testBit i = (b && x.testBit i) := by
  cases b <;> simp [sel]
theorem sel_lt {b : Bool} {x n : Nat} (h : x < 2 ^ n) : sel b x < 2 ^ n := by
  cases b
  · exact Nat.two_pow_pos n
  · exact h

/-! ### Times x, in the normal order -/
def X (w g a : Nat) : Nat := (a <<< 1) ^^^ sel (a.testBit (w - 1)) (2 ^ w ^^^ g)

def Xn (w g : Nat) : Nat → Nat → Nat
  | 0, a => a
  | n + 1, a => X w g (Xn w g n a)

/-- the sum of p's powers below n, applied to v -/
def ev (w g : Nat) : Nat → Nat → Nat → Nat
  | 0, _, _ => 0
  | n + 1, p, v => ev w g n p v ^^^ sel (p.testBit n) (Xn w g n v)

variable {w g : Nat}

theorem ev_succ (n p v : Nat) : ev w g (n + 1) p v = ev w g n p v ^^^ sel (p.testBit n) (Xn w g n v) := rfl
theorem X_zero : X w g 0 = 0 := by simp [X, sel]
theorem X_xor (a b : Nat) : X w g (a ^^^ b) = X w g a ^^^ X w g b := by
  unfold X
  rw [Nat.shiftLeft_xor_distrib, Nat.testBit_xor, sel_bxor, xor4]
theorem X_sel (b : Bool) (a : Nat) : X w g (sel b a) = sel b (X w g a) := by
  cases b
  · simp [sel, X_zero]
  · simp [sel]

theorem Xn_zero (n : Nat) : Xn w g n 0 = 0 := by
  induction n with
  | zero => rfl
  | succ n ih => simp [Xn, ih, X_zero]
theorem Xn_xor (n a b : Nat) : Xn w g n (a ^^^ b) = Xn w g n a ^^^ Xn w g n b := by
  induction n with
  | zero => rfl
  | succ n ih => simp only [Xn, ih, X_xor]
theorem Xn_sel (n : Nat) (b : Bool) (a : Nat) : Xn w g n (sel b a) = sel b (Xn w g n a) := by
  cases b
  · simp [sel, Xn_zero]
  · simp [sel]
theorem Xn_X (n a : Nat) : Xn w g n (X w g a) = X w g (Xn w g n a) := by
  induction n with
  | zero => rfl
  | succ n ih => simp only [Xn, ih]
theorem Xn_add (m n a : Nat) : Xn w g (m + n) a = Xn w g m (Xn w g n a) := by
  induction m with
  | zero => simp [Xn]
  | succ m ih => rw [Nat.succ_add]; simp only [Xn, ih]

theorem ev_X (n p v : Nat) : ev w g n p (X w g v) = X w g (ev w g n p v) := by
  induction n with
  | zero => simp [ev, X_zero]
  | succ n ih => simp only [ev, ih, X_xor, X_sel, Xn_X]
theorem ev_Xn (n p m v : Nat) : ev w g n p (Xn w g m v) = Xn w g m (ev w g n p v) := by
  induction m with
  | zero => rfl
  | succ m ih => simp only [Xn, ev_X, ih]
theorem ev_xor_right (n p a b : Nat) : ev w g n p (a ^^^ b) = ev w g n p a ^^^ ev w g n p b := by
  induction n with
  | zero => simp [ev]
  | succ n ih => simp only [ev, ih, Xn_xor, sel_xor]; rw [xor4]
theorem ev_zero_right (n p : Nat) : ev w g n p 0 = 0 := by
  induction n with
  | zero => rfl
  | succ n ih => simp [ev, ih, Xn_zero, sel]
theorem ev_sel_right (n p : Nat) (b : Bool) (a : Nat) : ev w g n p (sel b a) = sel b (ev w g n p a) := by
  cases b
  · simp [sel, ev_zero_right]
  · simp [sel]
theorem ev_xor_left (n p q v : Nat) : ev w g n (p ^^^ q) v = ev w g n p v ^^^ ev w g n q v := by
  induction n with
  | zero => simp [ev]
  | succ n ih => simp only [ev, ih, Nat.testBit_xor, sel_bxor]; rw [xor4]
theorem ev_zero_left (n v : Nat) : ev w g n 0 v = 0 := by
  induction n with
  | zero => rfl
  | succ n ih => simp [ev, ih, sel]
theorem ev_comm (n p m q v : Nat) : ev w g n p (ev w g m q v) = ev w g m q (ev w g n p v) := by
  induction m with
  | zero => simp [ev, ev_zero_right]
  | succ m ih => simp only [ev, ev_xor_right, ih, ev_sel_right, ev_Xn]

/-- powers beyond p's size do not count -/
theorem ev_more (n k p v : Nat) (hp : p < 2 ^ n) : ev w g (n + k) p v = ev w g n p v := by
  induction k with
  | zero => rfl
  | succ k ih => rw [← Nat.add_assoc]; simp only [ev, ih]; rw [bit_high hp (by omega)]; simp [sel]
theorem ev_eq {n m p v : Nat} (h : n ≤ m) (hp : p < 2 ^ n) : ev w g m p v = ev w g n p v := by
  have := ev_more (w := w) (g := g) n (m - n) p v hp
  rwa [Nat.add_sub_cancel' h] at this

theorem ev_shift (n i p v : Nat) : ev w g (n + i) (p <<< i) v = ev w g n p (Xn w g i v) := by
  induction n with
  | zero =>
    rw [Nat.zero_add]
    have : ∀ k, k ≤ i → ev w g k (p <<< i) v = 0 := by
      intro k
      induction k with
      | zero => intro _; rfl
      | succ k ih =>
        intro hk
        simp only [ev, ih (by omega), Nat.testBit_shiftLeft]
        have : decide (k ≥ i) = false := by simp; omega
        rw [this]; simp [sel]
    rw [this i (Nat.le_refl i)]; rfl
  | succ n ih =>
    rw [Nat.succ_add]
    simp only [ev, ih, Nat.testBit_shiftLeft]
    have h1 : decide (n + i ≥ i) = true := by simp
    rw [h1, Nat.add_sub_cancel, Xn_add]; simp

/-! ### Residues: numbers below 2^w -/
theorem X_lt (hw : 1 ≤ w) (hg : g < 2 ^ w) {a : Nat} (ha : a < 2 ^ w) : X w g a < 2 ^ w := by
  apply lt_pow_of_bits
  intro i hi
  unfold X
  rw [Nat.testBit_xor, Nat.testBit_shiftLeft, testBit_sel, Nat.testBit_xor, Nat.testBit_two_pow, bit_high hg hi]
  by_cases e : i = w
  · subst e
    have : decide (i ≥ 1) = true := by simp; omega
    rw [this]; simp
  · have h1 : decide (w = i) = false := by simp; omega
    rw [h1, bit_high ha (by omega : w ≤ i - 1)]; simp
theorem Xn_lt (hw : 1 ≤ w) (hg : g < 2 ^ w) {a : Nat} (ha : a < 2 ^ w) (n : Nat) : Xn w g n a < 2 ^ w := by
  induction n with
  | zero => exact ha
  | succ n ih => exact X_lt hw hg ih
theorem ev_lt (hw : 1 ≤ w) (hg : g < 2 ^ w) {v : Nat} (hv : v < 2 ^ w) (n p : Nat) : ev w g n p v < 2 ^ w := by
  induction n with
  | zero => exact Nat.two_pow_pos w
  | succ n ih => exact Nat.xor_lt_two_pow ih (sel_lt (Xn_lt hw hg hv n))

theorem Xn_one {i : Nat} (hi : i < w) : Xn w g i 1 = 2 ^ i := by
  induction i with
  | zero => rfl
  | succ i ih =>
    simp only [Xn, ih (by omega)]
    unfold X
    rw [Nat.testBit_two_pow]
    have : decide (i = w - 1) = false := by simp; omega
    rw [this]; simp [sel, Nat.shiftLeft_eq, Nat.pow_succ]
theorem Xw_one (hw : 1 ≤ w) : Xn w g w 1 = g := by
  obtain ⟨k, rfl⟩ : ∃ k, w = k + 1 := ⟨w - 1, by omega⟩
  simp only [Xn]
  rw [Xn_one (by omega)]
  unfold X
  rw [Nat.testBit_two_pow]
  simp [sel, Nat.shiftLeft_eq, ← Nat.pow_succ, xor_self_cancel]

theorem ev_one (k p : Nat) (hk : k ≤ w) : ev w g k p 1 = p % 2 ^ k := by
  induction k with
  | zero => simp [ev, Nat.mod_one]
  | succ k ih =>
    simp only [ev, ih (by omega)]
    rw [Xn_one (by omega)]
    apply Nat.eq_of_testBit_eq
    intro i
    rw [Nat.testBit_xor, testBit_sel, Nat.testBit_mod_two_pow, Nat.testBit_mod_two_pow, Nat.testBit_two_pow]
    by_cases h1 : i < k
    · have h2 : decide (k = i) = false := by simp; omega
      have h3 : decide (i < k + 1) = true := by simp; omega
      simp [h1, h2, h3]
    · by_cases h4 : i = k
      · subst h4; simp
      · have h2 : decide (k = i) = false := by simp; omega
        have h3 : decide (i < k + 1) = false := by simp; omega
        simp [h1, h2, h3]
theorem ev_self {m p : Nat} (hm : w ≤ m) (hp : p < 2 ^ w) : ev w g m p 1 = p := by
  rw [ev_eq hm hp, ev_one w p (Nat.le_refl w), Nat.mod_eq_of_lt hp]

/-- the product is commutative -/
theorem mul_comm' {m a b : Nat} (hm : w ≤ m) (ha : a < 2 ^ w) (hb : b < 2 ^ w) : ev w g m a b = ev w g m b a := by
  have h1 : ev w g m b 1 = b := ev_self hm hb
  have h2 : ev w g m a 1 = a := ev_self hm ha
  have h3 := ev_comm (w := w) (g := g) m a m b 1
  rwa [h1, h2] at h3
/-- times a power of x -/
theorem mul_pow {m v n : Nat} (hw : 1 ≤ w) (hg : g < 2 ^ w) (hm : w ≤ m) (hv : v < 2 ^ w) : ev w g m (Xn w g n 1) v = Xn w g n v := by
  have h1 : (1 : Nat) < 2 ^ w := Nat.one_lt_two_pow (by omega)
  rw [mul_comm' hm (Xn_lt hw hg h1 n) hv, ev_Xn, ev_self hm hv]

/-! ### The full product and the long division -/
def prod (a b : Nat) : Nat → Nat
  | 0 => 0
  | k + 1 => prod a b k ^^^ sel (b.testBit k) (a <<< k)

theorem prod_lt {a : Nat} (ha : a < 2 ^ 64) (b : Nat) (k : Nat) (hk : k ≤ 64) : prod a b k < 2 ^ 128 := by
  induction k with
  | zero => exact Nat.two_pow_pos _
  | succ k ih =>
    refine Nat.xor_lt_two_pow (ih (by omega)) (sel_lt ?_)
    rw [Nat.shiftLeft_eq]
    calc a * 2 ^ k < 2 ^ 64 * 2 ^ k := Nat.mul_lt_mul_of_pos_right ha (Nat.two_pow_pos k)
      _ = 2 ^ (64 + k) := (Nat.pow_add 2 64 k).symm
      _ ≤ 2 ^ 128 := Nat.pow_le_pow_right (by omega) (by omega)

/-- one row of the long division -/
def dstep (w g d P : Nat) : Nat := P ^^^ sel (P.testBit d) (2 ^ d ^^^ g <<< (d - w))
/-- k rows of it, from the coefficient of x^127 down -/
def divTo (w g : Nat) (P : Nat) : Nat → Nat
  | 0 => P
  | k + 1 => dstep w g (127 - k) (divTo w g P k)

theorem shl_lt {g w s : Nat} (hg : g < 2 ^ w) : g <<< s < 2 ^ (w + s) := by
  rw [Nat.shiftLeft_eq, Nat.pow_add]
  exact Nat.mul_lt_mul_of_pos_right hg (Nat.two_pow_pos s)

theorem dstep_lt {d P : Nat} (hg : g < 2 ^ w) (hd : w ≤ d) (hP : P < 2 ^ (d + 1)) : dstep w g d P < 2 ^ d := by
  have hs : g <<< (d - w) < 2 ^ d := by
    have := shl_lt (s := d - w) hg
    rwa [Nat.add_sub_cancel' hd] at this
  apply lt_pow_of_bits
  intro i hi
  unfold dstep
  rw [Nat.testBit_xor, testBit_sel, Nat.testBit_xor, Nat.testBit_two_pow, bit_high hs hi]
  by_cases e : i = d
  · subst e; simp
  · have h1 : decide (d = i) = false := by simp; omega
    rw [h1, bit_high hP (by omega)]; simp

theorem divTo_lt (hg : g < 2 ^ w) {P : Nat} (hP : P < 2 ^ 128) (k : Nat) (hk : k ≤ 128 - w) : divTo w g P k < 2 ^ (128 - k) := by
  induction k with
  | zero => exact hP
  | succ k ih =>
    have h1 := ih (by omega)
    have := dstep_lt (d := 127 - k) (P := divTo w g P k) hg (by omega) (by rwa [show 127 - k + 1 = 128 - k by omega])
    rwa [show 128 - (k + 1) = 127 - k by omega]

theorem ev_shl {a i : Nat} (hi : i ≤ 128) (hwi : w + i ≤ 128) (ha : a < 2 ^ w) : ev w g 128 (a <<< i) 1 = Xn w g i a := by
  have h := ev_shift (w := w) (g := g) (128 - i) i a 1
  rw [Nat.sub_add_cancel hi] at h
  rw [h, ev_Xn, ev_self (by omega) ha]

theorem ev_dstep {d P : Nat} (hw : 1 ≤ w) (hw' : w ≤ 64) (hg : g < 2 ^ w) (hd : w ≤ d) (hd' : d < 128) : ev w g 128 (dstep w g d P) 1 = ev w g 128 P 1 := by
  have h1 : (1 : Nat) < 2 ^ w := Nat.one_lt_two_pow (by omega)
  have e1 : ev w g 128 (2 ^ d) 1 = Xn w g d 1 := by
    have h := ev_shift (w := w) (g := g) (128 - d) d 1 1
    rw [Nat.sub_add_cancel (by omega : d ≤ 128), Nat.shiftLeft_eq, Nat.one_mul] at h
    rw [h, ev_Xn, ev_eq (n := 1) (by omega) (by decide)]
    simp [ev, sel, Xn]
  have e2 : ev w g 128 (g <<< (d - w)) 1 = Xn w g (d - w) g := ev_shl (by omega) (by omega) hg
  have e3 : Xn w g d 1 = Xn w g (d - w) g := by
    have := Xn_add (w := w) (g := g) (d - w) w 1
    rw [Nat.sub_add_cancel hd, Xw_one hw] at this
    exact this
  unfold dstep
  cases P.testBit d
  · simp [sel]
  · simp [sel, ev_xor_left, e1, e2, e3]

theorem ev_divTo (hw : 1 ≤ w) (hw' : w ≤ 64) (hg : g < 2 ^ w) (P k : Nat) (hk : k ≤ 128 - w) : ev w g 128 (divTo w g P k) 1 = ev w g 128 P 1 := by
  induction k with
  | zero => rfl
  | succ k ih => simp only [divTo]; rw [ev_dstep hw hw' hg (by omega) (by omega), ih (by omega)]

theorem ev_prod (hw' : w ≤ 64) {a : Nat} (ha : a < 2 ^ w) (b k : Nat) (hk : k ≤ 64) : ev w g 128 (prod a b k) 1 = ev w g k b a := by
  induction k with
  | zero => exact ev_zero_left _ _
  | succ k ih =>
    rw [ev_succ k b a, prod, ev_xor_left, ih (by omega)]
    congr 1
    cases b.testBit k
    · exact ev_zero_left _ _
    · exact ev_shl (by omega) (by omega) ha

/-- what zzMulNormal computes -/
def mulN (w g a b : Nat) : Nat := divTo w g (prod a b 64) (128 - w)

theorem mulN_lt (hw' : w ≤ 64) (hg : g < 2 ^ w) {a : Nat} (ha : a < 2 ^ w) (b : Nat) : mulN w g a b < 2 ^ w := by
  have ha' : a < 2 ^ 64 := Nat.lt_of_lt_of_le ha (Nat.pow_le_pow_right (by omega) hw')
  have := divTo_lt hg (prod_lt ha' b 64 (Nat.le_refl _)) (128 - w) (Nat.le_refl _)
  rwa [show 128 - (128 - w) = w by omega] at this
theorem mulN_eq (hw : 1 ≤ w) (hw' : w ≤ 64) (hg : g < 2 ^ w) {a : Nat} (ha : a < 2 ^ w) (b : Nat) : mulN w g a b = ev w g 64 b a := by
  have h1 := mulN_lt hw' hg ha b
  have h2 := ev_self (w := w) (g := g) (m := 128) (by omega) h1
  unfold mulN at h2 ⊢
  rw [ev_divTo hw hw' hg _ _ (Nat.le_refl _), ev_prod hw' ha b 64 (Nat.le_refl _)] at h2
  exact h2.symm

/-! ### The powers of x by squaring -/
/-- k rounds of zzXPow -/
def xpow (w g e : Nat) : Nat → Nat
  | 0 => 1
  | k + 1 => if e.testBit (63 - k) then mulN w g (mulN w g (xpow w g e k) (xpow w g e k)) 2 else mulN w g (xpow w g e k) (xpow w g e k)

theorem bit_split (e k : Nat) : e >>> k = 2 * (e >>> (k + 1)) + (if e.testBit k then 1 else 0) := by
  have h : (e >>> k) / 2 = e >>> (k + 1) := by rw [Nat.shiftRight_succ]
  have hb : e.testBit k = decide ((e >>> k) % 2 = 1) := by
    rw [Nat.testBit_eq_decide_div_mod_eq, Nat.shiftRight_eq_div_pow]
  rw [hb]
  by_cases c : (e >>> k) % 2 = 1
  · simp [c]; omega
  · simp [c]; omega

theorem mulN_sq (hw : 1 ≤ w) (hw' : w ≤ 64) (hg : g < 2 ^ w) (n : Nat) : mulN w g (Xn w g n 1) (Xn w g n 1) = Xn w g (n + n) 1 := by
  have h1 : (1 : Nat) < 2 ^ w := Nat.one_lt_two_pow (by omega)
  rw [mulN_eq hw hw' hg (Xn_lt hw hg h1 n), mul_pow hw hg hw' (Xn_lt hw hg h1 n), Xn_add]
theorem mulN_two (hw : 1 ≤ w) (hw' : w ≤ 64) (hg : g < 2 ^ w) {a : Nat} (ha : a < 2 ^ w) : mulN w g a 2 = X w g a := by
  rw [mulN_eq hw hw' hg ha, ev_eq (n := 2) (by omega) (by decide)]
  simp [ev, sel, Xn, Nat.testBit]

theorem xpow_eq (hw : 1 ≤ w) (hw' : w ≤ 64) (hg : g < 2 ^ w) {e : Nat} (he : e < 2 ^ 64) (k : Nat) (hk : k ≤ 64) : xpow w g e k = Xn w g (e >>> (64 - k)) 1 := by
  have h1 : (1 : Nat) < 2 ^ w := Nat.one_lt_two_pow (by omega)
  induction k with
  | zero =>
    have : e >>> (64 - 0) = 0 := by rw [Nat.shiftRight_eq_div_pow]; exact Nat.div_eq_of_lt he
    rw [this]; rfl
  | succ k ih =>
    have hs := bit_split e (63 - k)
    rw [show 63 - k + 1 = 64 - k by omega] at hs
    rw [show 64 - (k + 1) = 63 - k by omega, hs]
    simp only [xpow]
    rw [ih (by omega), mulN_sq hw hw' hg, mulN_two hw hw' hg (Xn_lt hw hg h1 _), Nat.two_mul]
    cases e.testBit (63 - k) <;> rfl

/-! ### The reversed order -/
/-- k rounds of zzRev -/
def revTo (w v : Nat) : Nat → Nat
  | 0 => 0
  | k + 1 => if v.testBit k then revTo w v k ||| 2 ^ (w - 1 - k) else revTo w v k
def rev (w v : Nat) : Nat := revTo w v w

theorem testBit_revTo (w v k j : Nat) (hk : k ≤ w) : (revTo w v k).testBit j = (decide (j < w ∧ w - 1 - j < k) && v.testBit (w - 1 - j)) := by
  induction k with
  | zero => simp [revTo]
  | succ k ih =>
    simp only [revTo]
    have hor : (revTo w v k ||| 2 ^ (w - 1 - k)).testBit j = ((decide (j < w ∧ w - 1 - j < k) && v.testBit (w - 1 - j)) || decide (w - 1 - k = j)) := by
      rw [Nat.testBit_or, Nat.testBit_two_pow, ih (by omega)]
    by_cases e : w - 1 - k = j
    · have e2 : w - 1 - j = k := by omega
      have e3 : j < w := by omega
      have d1 : decide (j < w ∧ w - 1 - j < k + 1) = true := by simp; omega
      have d2 : decide (j < w ∧ w - 1 - j < k) = false := by simp; omega
      rw [d1]
      cases hb : v.testBit k
      · simp [ih (by omega), e2, hb]
      · simp only [if_true]; rw [hor, e2, hb]; simp [e]
    · have d1 : decide (j < w ∧ w - 1 - j < k + 1) = decide (j < w ∧ w - 1 - j < k) := by
        rw [decide_eq_decide]; omega
      rw [d1]
      cases hb : v.testBit k
      · simp only [Bool.false_eq_true, if_false]; exact ih (by omega)
      · simp only [if_true]; rw [hor]; simp [e]

theorem revTo_lt (w v k : Nat) (hk : k ≤ w) : revTo w v k < 2 ^ w := by
  apply lt_pow_of_bits
  intro i hi
  rw [testBit_revTo w v k i hk]
  have : decide (i < w ∧ w - 1 - i < k) = false := by simp; omega
  rw [this]; rfl
theorem rev_lt (w v : Nat) : rev w v < 2 ^ w := revTo_lt w v w (Nat.le_refl w)
theorem testBit_rev (w v j : Nat) : (rev w v).testBit j = (decide (j < w) && v.testBit (w - 1 - j)) := by
  unfold rev
  rw [testBit_revTo w v w j (Nat.le_refl w)]
  congr 1
  rw [decide_eq_decide]; omega
theorem rev_rev {w v : Nat} (hv : v < 2 ^ w) : rev w (rev w v) = v := by
  apply Nat.eq_of_testBit_eq
  intro j
  rw [testBit_rev, testBit_rev]
  by_cases hj : j < w
  · have h1 : decide (w - 1 - j < w) = true := by simp; omega
    rw [h1, show w - 1 - (w - 1 - j) = j by omega]; simp [hj]
  · rw [bit_high (i := j) hv (by omega)]; simp [hj]
theorem rev_xor (w a b : Nat) : rev w (a ^^^ b) = rev w a ^^^ rev w b := by
  apply Nat.eq_of_testBit_eq
  intro j
  rw [Nat.testBit_xor, testBit_rev, testBit_rev, testBit_rev, Nat.testBit_xor]
  cases decide (j < w) <;> simp
theorem rev_zero (w : Nat) : rev w 0 = 0 := by
  apply Nat.eq_of_testBit_eq
  intro j
  rw [testBit_rev]; simp
theorem rev_sel (w : Nat) (b : Bool) (a : Nat) : rev w (sel b a) = sel b (rev w a) := by
  cases b
  · simp [sel, rev_zero]
  · simp [sel]

/-! ### The crc's own functions, in the reversed order -/
def tX (poly v : Nat) : Nat := v >>> 1 ^^^ sel (v.testBit 0) poly
def tXn (poly : Nat) : Nat → Nat → Nat
  | 0, v => v
  | n + 1, v => tX poly (tXn poly n v)
/-- k rounds of crc.times: the product so far -/
def timesTo (w poly u v : Nat) : Nat → Nat
  | 0 => 0
  | k + 1 => timesTo w poly u v k ^^^ sel (u.testBit (w - 1 - k)) (tXn poly k v)
def times (w poly u v : Nat) : Nat := timesTo w poly u v w

theorem tX_lt {w poly v : Nat} (hp : poly < 2 ^ w) (hv : v < 2 ^ w) : tX poly v < 2 ^ w := by
  refine Nat.xor_lt_two_pow ?_ (sel_lt hp)
  rw [Nat.shiftRight_eq_div_pow]
  exact Nat.lt_of_le_of_lt (Nat.div_le_self _ _) hv
theorem tXn_lt {w poly v : Nat} (hp : poly < 2 ^ w) (hv : v < 2 ^ w) (n : Nat) : tXn poly n v < 2 ^ w := by
  induction n with
  | zero => exact hv
  | succ n ih => exact tX_lt hp ih
theorem timesTo_lt {w poly u v : Nat} (hp : poly < 2 ^ w) (hv : v < 2 ^ w) (k : Nat) : timesTo w poly u v k < 2 ^ w := by
  induction k with
  | zero => exact Nat.two_pow_pos w
  | succ k ih => exact Nat.xor_lt_two_pow ih (sel_lt (tXn_lt hp hv k))
theorem times_lt {w poly u v : Nat} (hp : poly < 2 ^ w) (hv : v < 2 ^ w) : times w poly u v < 2 ^ w := timesTo_lt hp hv w

theorem rev_tX {w poly v : Nat} (hw : 1 ≤ w) (hp : poly < 2 ^ w) (hv : v < 2 ^ w) : rev w (tX poly v) = X w (rev w poly) (rev w v) := by
  apply Nat.eq_of_testBit_eq
  intro j
  unfold tX X
  rw [testBit_rev, Nat.testBit_xor, Nat.testBit_shiftRight, testBit_sel, Nat.testBit_xor, Nat.testBit_shiftLeft, testBit_sel, Nat.testBit_xor, Nat.testBit_two_pow, testBit_rev, testBit_rev, testBit_rev]
  have e0 : decide (w - 1 < w) = true := by simp; omega
  rw [e0, show w - 1 - (w - 1) = 0 by omega]
  by_cases hj : j < w
  · have d2 : decide (w = j) = false := by simp; omega
    rw [d2]
    by_cases h0 : j = 0
    · subst h0
      have d4 : decide (0 < w) = true := by simp; omega
      rw [show 1 + (w - 1 - 0) = w by omega, bit_high hv (Nat.le_refl w), d4]
      simp
    · have d1 : decide (j ≥ 1) = true := by simp; omega
      have d3 : decide (j - 1 < w) = true := by simp; omega
      rw [d1, d3, show w - 1 - (j - 1) = 1 + (w - 1 - j) by omega]
      simp [hj]
  · have d0 : decide (j < w) = false := by simp; omega
    rw [d0]
    by_cases e : j = w
    · subst e
      have d1 : decide (j ≥ 1) = true := by simp; omega
      have d3 : decide (j - 1 < j) = true := by simp; omega
      rw [d1, d3, show j - 1 - (j - 1) = 0 by omega]
      simp
    · have d2 : decide (w = j) = false := by simp; omega
      have d3 : decide (j - 1 < w) = false := by simp; omega
      rw [d2, d3]; simp
theorem rev_tXn {w poly v : Nat} (hw : 1 ≤ w) (hp : poly < 2 ^ w) (hv : v < 2 ^ w) (n : Nat) : rev w (tXn poly n v) = Xn w (rev w poly) n (rev w v) := by
  induction n with
  | zero => rfl
  | succ n ih => simp only [tXn, Xn]; rw [rev_tX hw hp (tXn_lt hp hv n), ih]
theorem rev_timesTo {w poly u v : Nat} (hw : 1 ≤ w) (hp : poly < 2 ^ w) (hv : v < 2 ^ w) (k : Nat) (hk : k ≤ w) : rev w (timesTo w poly u v k) = ev w (rev w poly) k (rev w u) (rev w v) := by
  induction k with
  | zero => exact rev_zero w
  | succ k ih =>
    simp only [timesTo, ev]
    rw [rev_xor, ih (by omega), rev_sel, rev_tXn hw hp hv]
    have : (rev w u).testBit k = u.testBit (w - 1 - k) := by
      rw [testBit_rev]; have : decide (k < w) = true := by simp; omega
      rw [this]; simp
    rw [this]
theorem rev_times {w poly u v : Nat} (hw : 1 ≤ w) (hw' : w ≤ 64) (hp : poly < 2 ^ w) (hv : v < 2 ^ w) : rev w (times w poly u v) = ev w (rev w poly) 64 (rev w u) (rev w v) := by
  unfold times
  rw [rev_timesTo hw hp hv w (Nat.le_refl w), ev_eq hw' (rev_lt w u)]

/-! ### crc.shift -/
/-- the loop of crc.shift with fuel: (factor, power) at e -/
def shiftLoop (w poly : Nat) : Nat → Nat → Nat → Nat → Nat
  | 0, _, factor, _ => factor
  | f + 1, e, factor, power => if e = 0 then factor else shiftLoop w poly f (e / 2) (if e % 2 = 1 then times w poly factor power else factor) (times w poly power power)
def shift (w poly v n : Nat) : Nat := times w poly v (shiftLoop w poly 64 (8 * n) (2 ^ (w - 1)) (2 ^ (w - 1) / 2))

theorem shiftLoop_eq {w poly : Nat} (hw : 1 ≤ w) (hw' : w ≤ 64) (hp : poly < 2 ^ w) (f : Nat) :
    ∀ (e factor power a b : Nat), e < 2 ^ f → factor < 2 ^ w → power < 2 ^ w → rev w factor = Xn w (rev w poly) a 1 → rev w power = Xn w (rev w poly) b 1 →
      shiftLoop w poly f e factor power < 2 ^ w ∧ rev w (shiftLoop w poly f e factor power) = Xn w (rev w poly) (a + b * e) 1 := by
  have hg := rev_lt w poly
  have h1 : (1 : Nat) < 2 ^ w := Nat.one_lt_two_pow (by omega)
  induction f with
  | zero =>
    intro e factor power a b he hf hpw ha hb
    have : e = 0 := by simpa using he
    subst this
    exact ⟨hf, by simpa [shiftLoop] using ha⟩
  | succ f ih =>
    intro e factor power a b he hf hpw ha hb
    simp only [shiftLoop]
    by_cases h0 : e = 0
    · subst h0; simp; exact ⟨hf, ha⟩
    · rw [if_neg h0]
      have hpp : rev w (times w poly power power) = Xn w (rev w poly) (b + b) 1 := by
        rw [rev_times hw hw' hp hpw, hb, mul_pow hw hg hw' (Xn_lt hw hg h1 b), Xn_add]
      have he2 : e / 2 < 2 ^ f := by rw [Nat.pow_succ] at he; omega
      by_cases ho : e % 2 = 1
      · rw [if_pos ho]
        have hfp : rev w (times w poly factor power) = Xn w (rev w poly) (a + b) 1 := by
          rw [rev_times hw hw' hp hpw, ha, hb, mul_pow hw hg hw' (Xn_lt hw hg h1 b), Xn_add]
        have := ih (e / 2) _ _ (a + b) (b + b) he2 (times_lt hp hpw) (times_lt hp hpw) hfp hpp
        have e2 : a + b + (b + b) * (e / 2) = a + b * e := by
          have : e = 2 * (e / 2) + 1 := by omega
          generalize e / 2 = q at *
          subst this
          rw [Nat.mul_add, Nat.add_mul, Nat.mul_comm 2 q, ← Nat.mul_assoc, Nat.mul_two]
          omega
        rwa [e2] at this
      · rw [if_neg ho]
        have := ih (e / 2) _ _ a (b + b) he2 hf (times_lt hp hpw) ha hpp
        have e2 : a + (b + b) * (e / 2) = a + b * e := by
          have : e = 2 * (e / 2) := by omega
          generalize e / 2 = q at *
          subst this
          rw [Nat.add_mul, Nat.mul_comm 2 q, ← Nat.mul_assoc, Nat.mul_two]
        rwa [e2] at this

theorem rev_pow {w k : Nat} (hk : k < w) : rev w (2 ^ (w - 1 - k)) = 2 ^ k := by
  apply Nat.eq_of_testBit_eq
  intro j
  rw [testBit_rev, Nat.testBit_two_pow, Nat.testBit_two_pow]
  by_cases hj : j < w
  · have d0 : decide (j < w) = true := by simp; omega
    rw [d0, Bool.true_and, decide_eq_decide]; omega
  · have d0 : decide (j < w) = false := by simp; omega
    have d1 : decide (k = j) = false := by simp; omega
    rw [d0, d1]; rfl

theorem shift_eq {w poly v n : Nat} (hw : 2 ≤ w) (hw' : w ≤ 64) (hp : poly < 2 ^ w) (hv : v < 2 ^ w) (hn : 8 * n < 2 ^ 64) :
    shift w poly v n < 2 ^ w ∧ rev w (shift w poly v n) = Xn w (rev w poly) (8 * n) (rev w v) := by
  have hg := rev_lt w poly
  have h1 : (1 : Nat) < 2 ^ w := Nat.one_lt_two_pow (by omega)
  have r0 : rev w (2 ^ (w - 1)) = Xn w (rev w poly) 0 1 := by
    have := rev_pow (w := w) (k := 0) (by omega)
    simpa [Xn] using this
  have r1 : rev w (2 ^ (w - 1) / 2) = Xn w (rev w poly) 1 1 := by
    have e : 2 ^ (w - 1) / 2 = 2 ^ (w - 1 - 1) := by
      rw [show w - 1 = w - 1 - 1 + 1 by omega, Nat.pow_succ, Nat.add_sub_cancel]; omega
    rw [e, rev_pow (by omega), Xn_one (by omega)]
  have b0 : 2 ^ (w - 1) < 2 ^ w := Nat.pow_lt_pow_right (by omega) (by omega)
  have h := shiftLoop_eq (w := w) (poly := poly) (by omega) hw' hp 64 (8 * n) (2 ^ (w - 1)) (2 ^ (w - 1) / 2) 0 1 hn b0 (by omega) r0 r1
  rw [Nat.zero_add, Nat.one_mul] at h
  unfold shift
  refine ⟨times_lt hp h.1, ?_⟩
  rw [rev_times (by omega) hw' hp h.1, h.2, mul_comm' hw' (rev_lt w v) (Xn_lt (by omega) hg h1 _), mul_pow (by omega) hg hw' (rev_lt w v)]

/-! ### The four laws -/
theorem law_timesX {w poly v : Nat} (hw : 1 ≤ w) (hw' : w ≤ 64) (hp : poly < 2 ^ w) (hv : v < 2 ^ w) :
    tX poly v = rev w (mulN w (rev w poly) (rev w v) 2) := by
  rw [mulN_two hw hw' (rev_lt w poly) (rev_lt w v), ← rev_tX hw hp hv, rev_rev (tX_lt hp hv)]

theorem law_times {w poly u v : Nat} (hw : 1 ≤ w) (hw' : w ≤ 64) (hp : poly < 2 ^ w) (hv : v < 2 ^ w) :
    times w poly u v = rev w (mulN w (rev w poly) (rev w u) (rev w v)) := by
  rw [mulN_eq hw hw' (rev_lt w poly) (rev_lt w u), mul_comm' hw' (rev_lt w v) (rev_lt w u), ← rev_times hw hw' hp hv, rev_rev (times_lt hp hv)]

/-- what zzShiftModel computes -/
def model (w poly v n : Nat) : Nat := rev w (mulN w (rev w poly) (rev w v) (xpow w (rev w poly) (8 * n) 64))

theorem law_shift {w poly v n : Nat} (hw : 2 ≤ w) (hw' : w ≤ 64) (hp : poly < 2 ^ w) (hv : v < 2 ^ w) (hn : 8 * n < 2 ^ 64) :
    shift w poly v n = model w poly v n := by
  have hg := rev_lt w poly
  have h1 : (1 : Nat) < 2 ^ w := Nat.one_lt_two_pow (by omega)
  have h := shift_eq hw hw' hp hv hn
  unfold model
  rw [xpow_eq (by omega) hw' hg hn 64 (Nat.le_refl _), Nat.sub_self, Nat.shiftRight_zero, mulN_eq (by omega) hw' hg (rev_lt w v),
    mul_pow (by omega) hg hw' (rev_lt w v), ← h.2, rev_rev h.1]

theorem law_compose {w poly v a b : Nat} (hw : 2 ≤ w) (hw' : w ≤ 64) (hp : poly < 2 ^ w) (hv : v < 2 ^ w) (ha : 8 * (a + b) < 2 ^ 64) :
    shift w poly (shift w poly v a) b = shift w poly v (a + b) := by
  have h1 := shift_eq hw hw' hp hv (n := a) (by omega)
  have h2 := shift_eq hw hw' hp h1.1 (n := b) (by omega)
  have h3 := shift_eq hw hw' hp hv (n := a + b) ha
  rw [← rev_rev h2.1, ← rev_rev h3.1, h2.2, h3.2, h1.2, ← Xn_add]
  rw [show 8 * b + 8 * a = 8 * (a + b) by omega]

end Go.Proofs.Qxb6002910a.Poly
