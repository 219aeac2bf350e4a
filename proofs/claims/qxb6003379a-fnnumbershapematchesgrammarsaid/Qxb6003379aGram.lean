/-
  THE PLAIN LAW OF FnNumberShapeMatchesGrammar: the reader by stages and the automaton agree. No Go in sight.
-/
import Derived.Test.Qxb6003379aStr
namespace Go.Proofs.Qxb6003379a

/-! ### The automaton, a byte at a time (the states as the law's text numbers them; below nought: no move) -/
def dgt (x : Int) : Bool := decide (48 ≤ x) && decide (x ≤ 57)
def nz (x : Int) : Bool := decide (49 ≤ x) && decide (x ≤ 57)
def ex (x : Int) : Bool := x == 101 || x == 69
def nxt (s x : Int) : Int :=
  if s = 0 then (if x = 45 then 1 else if x = 48 then 2 else if nz x then 3 else -1)
  else if s = 1 then (if x = 48 then 2 else if nz x then 3 else -1)
  else if s = 2 then (if x = 46 then 4 else if ex x then 6 else -1)
  else if s = 3 then (if dgt x then 3 else if x = 46 then 4 else if ex x then 6 else -1)
  else if s = 4 then (if dgt x then 5 else -1)
  else if s = 5 then (if dgt x then 5 else if ex x then 6 else -1)
  else if s = 6 then (if x = 43 ∨ x = 45 then 7 else if dgt x then 8 else -1)
  else if s = 7 ∨ s = 8 then (if dgt x then 8 else -1)
  else -1
def acc (s : Int) : Bool × Bool :=
  if s = 2 ∨ s = 3 then (true, false) else if s = 5 ∨ s = 8 then (true, true) else (false, false)
def run (s : Int) : List UInt8 → Bool × Bool
  | [] => acc s
  | c :: l => if nxt s c.toNat < 0 then (false, false) else run (nxt s c.toNat) l

/-! ### The reader, a stage at a time: the kind of an accepted text -/
def fin (kd : Int) : List UInt8 → Option Int
  | [] => some kd
  | _ :: _ => none
/-- behind 'e': an optional sign -/
def sgn : List UInt8 → List UInt8
  | [] => []
  | c :: t => if c = 43 ∨ c = 45 then t else c :: t
def stX (r : List UInt8) : Option Int := if digs r = 0 then none else fin 6 (r.drop (digs r))
def stE (kd : Int) : List UInt8 → Option Int
  | [] => fin kd []
  | c :: t => if c = 101 ∨ c = 69 then stX (sgn t) else fin kd (c :: t)
def stF : List UInt8 → Option Int
  | [] => stE 5 []
  | c :: t => if c = 46 then (if digs t = 0 then none else stE 6 (t.drop (digs t))) else stE 5 (c :: t)
def stI : List UInt8 → Option Int
  | [] => none
  | c :: t => if c = 48 then stF t else if digs (c :: t) = 0 then none else stF ((c :: t).drop (digs (c :: t)))
def shape : List UInt8 → Option Int
  | [] => stI []
  | c :: t => if c = 45 then stI t else stI (c :: t)

/-- the two answers, one beside the other -/
def ans : Option Int → Bool × Bool
  | none => (false, false)
  | some k => (true, k == 6)

theorem isD_dgt (c : UInt8) : isD c = dgt c.toNat := by
  unfold isD dgt
  congr 1 <;> rw [decide_eq_decide] <;> omega
theorem byte_ne {c : UInt8} {n : Nat} (hn : n < 256) : c = UInt8.ofNat n ↔ (c.toNat : Int) = n := by
  constructor
  · rintro rfl; rw [UInt8.toNat_ofNat']; omega
  · intro h
    apply UInt8.toNat.inj
    rw [UInt8.toNat_ofNat']; omega

theorem run8 (r : List UInt8) : run 8 r = ans (fin 6 (r.drop (digs r))) := by
  induction r with
  | nil => rfl
  | cons c t ih =>
    have hd := isD_dgt c
    cases h : dgt c.toNat
    · rw [h] at hd
      simp [run, nxt, h, digs, hd, fin, ans]
    · rw [h] at hd
      simp [run, nxt, h, digs, hd, ih]
theorem run7 (r : List UInt8) : run 7 r = ans (stX r) := by
  cases r with
  | nil => rfl
  | cons c t =>
    have hd := isD_dgt c
    cases h : dgt c.toNat
    · rw [h] at hd
      simp [run, nxt, h, stX, digs, hd, ans]
    · rw [h] at hd
      simp [run, nxt, h, stX, digs, hd, run8]
theorem run6 (r : List UInt8) : run 6 r = ans (stX (sgn r)) := by
  cases r with
  | nil => rfl
  | cons c t =>
    have hd := isD_dgt c
    have e1 : c = 43 ↔ (c.toNat : Int) = 43 := byte_ne (n := 43) (by omega)
    have e2 : c = 45 ↔ (c.toNat : Int) = 45 := byte_ne (n := 45) (by omega)
    by_cases hs : (c.toNat : Int) = 43 ∨ (c.toNat : Int) = 45
    · have hs' : c = 43 ∨ c = 45 := by rw [e1, e2]; exact hs
      simp only [run, nxt, sgn, hs, hs', if_true]
      simp [run7]
    · have hs' : ¬ (c = 43 ∨ c = 45) := by rw [e1, e2]; exact hs
      cases h : dgt c.toNat
      · rw [h] at hd
        simp [run, nxt, hs, h, sgn, hs', stX, digs, hd, ans]
      · rw [h] at hd
        simp [run, nxt, hs, h, sgn, hs', stX, digs, hd, run8]
theorem ex_iff (c : UInt8) : ex c.toNat = true ↔ (c = 101 ∨ c = 69) := by
  have e1 : c = 101 ↔ (c.toNat : Int) = 101 := byte_ne (n := 101) (by omega)
  have e2 : c = 69 ↔ (c.toNat : Int) = 69 := byte_ne (n := 69) (by omega)
  rw [e1, e2]; simp [ex]
theorem run5 (r : List UInt8) : run 5 r = ans (stE 6 (r.drop (digs r))) := by
  induction r with
  | nil => rfl
  | cons c t ih =>
    have hd := isD_dgt c
    have he := ex_iff c
    cases h : dgt c.toNat
    · rw [h] at hd
      cases h2 : ex c.toNat
      · rw [h2] at he
        have he' : ¬ (c = 101 ∨ c = 69) := fun h => by cases he.2 h
        simp [run, nxt, h, h2, digs, hd, stE, he', fin, ans]
      · rw [h2] at he
        have he' : c = 101 ∨ c = 69 := he.1 rfl
        simp [run, nxt, h, h2, digs, hd, stE, he', run6]
    · rw [h] at hd
      simp [run, nxt, h, digs, hd, ih]
theorem run4 (t : List UInt8) : run 4 t = ans (if digs t = 0 then none else stE 6 (t.drop (digs t))) := by
  cases t with
  | nil => rfl
  | cons c t =>
    have hd := isD_dgt c
    cases h : dgt c.toNat
    · rw [h] at hd
      simp [run, nxt, h, digs, hd, ans]
    · rw [h] at hd
      simp [run, nxt, h, digs, hd, run5]
/-- the end of an integer part: state 2 -/
theorem run2 (r : List UInt8) : run 2 r = ans (stF r) := by
  cases r with
  | nil => rfl
  | cons c t =>
    have e1 : c = 46 ↔ (c.toNat : Int) = 46 := byte_ne (n := 46) (by omega)
    have he := ex_iff c
    by_cases hp : (c.toNat : Int) = 46
    · have hp' := e1.2 hp
      simp only [run, nxt, stF, hp', if_true]
      simp [run4]
    · have hp' : ¬ c = 46 := fun h => hp (e1.1 h)
      cases h2 : ex c.toNat
      · rw [h2] at he
        have he' : ¬ (c = 101 ∨ c = 69) := fun h => by cases he.2 h
        simp [run, nxt, hp, h2, stF, hp', stE, he', fin, ans]
      · rw [h2] at he
        have he' : c = 101 ∨ c = 69 := he.1 rfl
        simp [run, nxt, hp, h2, stF, hp', stE, he', run6]
theorem run3 (r : List UInt8) : run 3 r = ans (stF (r.drop (digs r))) := by
  induction r with
  | nil => rfl
  | cons c t ih =>
    have hd := isD_dgt c
    cases h : dgt c.toNat
    · rw [h] at hd
      have e : run 3 (c :: t) = run 2 (c :: t) := by simp [run, nxt, h]
      rw [e, run2]
      simp [digs, hd]
    · rw [h] at hd
      simp [run, nxt, h, digs, hd, ih]
theorem nz_dgt {x : Int} (h : nz x = true) : dgt x = true ∧ x ≠ 48 := by
  simp [nz, dgt] at h ⊢; omega
theorem not_nz {x : Int} (h : nz x = false) (h2 : x ≠ 48) : dgt x = false := by
  cases hd : dgt x
  · rfl
  · simp [nz, dgt] at h hd; omega
theorem run1 (r : List UInt8) : run 1 r = ans (stI r) := by
  cases r with
  | nil => rfl
  | cons c t =>
    have hd := isD_dgt c
    have e1 : c = 48 ↔ (c.toNat : Int) = 48 := byte_ne (n := 48) (by omega)
    by_cases hz : (c.toNat : Int) = 48
    · have hz' := e1.2 hz
      simp only [run, nxt, stI, hz', if_true]
      simp [run2]
    · have hz' : ¬ c = 48 := fun h => hz (e1.1 h)
      cases h : nz c.toNat
      · rw [not_nz h hz] at hd
        simp [run, nxt, hz, h, stI, hz', digs, hd, ans]
      · rw [(nz_dgt h).1] at hd
        simp [run, nxt, hz, h, stI, hz', digs, hd, run3]
theorem run0 (l : List UInt8) : run 0 l = ans (shape l) := by
  cases l with
  | nil => rfl
  | cons c t =>
    have e1 : c = 45 ↔ (c.toNat : Int) = 45 := byte_ne (n := 45) (by omega)
    by_cases hm : (c.toNat : Int) = 45
    · have hm' := e1.2 hm
      simp only [run, nxt, shape, hm', if_true]
      simp [run1]
    · have hm' : ¬ c = 45 := fun h => hm (e1.1 h)
      have e : run 0 (c :: t) = run 1 (c :: t) := by simp [run, nxt, hm]
      rw [e, run1]
      simp [shape, hm']

/-- an accepted text's kind is 5 or 6 -/
theorem shape_kind (l : List UInt8) (k : Int) (h : shape l = some k) : k = 5 ∨ k = 6 := by
  have fin_k : ∀ (kd : Int) r k, fin kd r = some k → k = kd := by
    intro kd r k h; cases r <;> simp [fin] at h; omega
  have stX_k : ∀ r k, stX r = some k → k = 6 := by
    intro r k h; unfold stX at h; split at h
    · cases h
    · exact fin_k _ _ _ h
  have stE_k : ∀ (kd : Int) r k, (kd = 5 ∨ kd = 6) → stE kd r = some k → k = 5 ∨ k = 6 := by
    intro kd r k hk h
    cases r with
    | nil => have := fin_k kd [] _ h; omega
    | cons c t =>
      simp only [stE] at h
      split at h
      · exact Or.inr (stX_k _ _ h)
      · have := fin_k _ _ _ h; omega
  have stF_k : ∀ r k, stF r = some k → k = 5 ∨ k = 6 := by
    intro r k h
    cases r with
    | nil => exact stE_k 5 [] _ (Or.inl rfl) h
    | cons c t =>
      simp only [stF] at h
      split at h
      · split at h
        · cases h
        · exact stE_k _ _ _ (Or.inr rfl) h
      · exact stE_k _ _ _ (Or.inl rfl) h
  have stI_k : ∀ r k, stI r = some k → k = 5 ∨ k = 6 := by
    intro r k h
    cases r with
    | nil => cases h
    | cons c t =>
      simp only [stI] at h
      split at h
      · exact stF_k _ _ h
      · split at h
        · cases h
        · exact stF_k _ _ h
  cases l with
  | nil => exact stI_k [] _ h
  | cons c t =>
    simp only [shape] at h
    split at h
    · exact stI_k _ _ h
    · exact stI_k _ _ h
end Go.Proofs.Qxb6003379a
