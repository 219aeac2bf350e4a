/-
  STRINGS AS LISTS OF BYTES; the run of digits at a list's head. No function of the program in sight.
-/
import Derived.WalkKit
namespace Go.Proofs.Qxb6003379a

/-- the string of these bytes -/
def str (l : List UInt8) : ByteArray := ⟨l.toArray⟩

theorem str_size (l : List UInt8) : (str l).size = l.length := by simp [str, ByteArray.size]
theorem str_append (l m : List UInt8) : str l ++ str m = str (l ++ m) := by
  apply ByteArray.ext; simp [str]
theorem str_of (s : ByteArray) : s = str s.data.toList := by simp [str]
theorem str_get (l : List UInt8) (i : Nat) (h : i < (str l).size) : (str l)[i] = l[i]'(by rwa [str_size] at h) := by
  simp [str, ByteArray.getElem_eq_getElem_data]
theorem str_extract (l : List UInt8) (i j : Nat) : (str l).extract i j = str ((l.drop i).take (j - i)) := by
  apply ByteArray.ext
  simp [str]
theorem str_drop (l : List UInt8) (i : Nat) : (str l).extract i (str l).size = str (l.drop i) := by
  rw [str_extract, str_size, List.take_of_length_le (by simp)]
theorem str_toList (l : List UInt8) : (str l).toList = l := ByteArray.toList_mk l
theorem str_inj {l m : List UInt8} (h : str l = str m) : l = m := by
  have := congrArg (fun s : ByteArray => s.data.toList) h
  simpa [str] using this

def isD (c : UInt8) : Bool := decide (48 ≤ c.toNat) && decide (c.toNat ≤ 57)

/-- how many digits the list starts with -/
def digs : List UInt8 → Nat
  | [] => 0
  | c :: l => if isD c then digs l + 1 else 0

theorem digs_le (l : List UInt8) : digs l ≤ l.length := by
  induction l with
  | nil => simp [digs]
  | cons c l ih =>
    simp only [digs, List.length_cons]
    split <;> omega
theorem digs_step (l : List UInt8) : ∀ (k : Nat) (h : k < l.length), k ≤ digs l → isD l[k] = true → k + 1 ≤ digs l := by
  induction l with
  | nil => intro k h; simp at h
  | cons c l ih =>
    intro k h hk hd
    cases k with
    | zero => simp at hd; simp [digs, hd]
    | succ k =>
      simp only [digs] at hk ⊢
      split
      · rename_i hc
        rw [if_pos hc] at hk
        have := ih k (by simpa using h) (by omega) (by simpa using hd)
        omega
      · rename_i hc
        rw [if_neg hc] at hk
        omega
theorem digs_stop (l : List UInt8) : ∀ (k : Nat) (h : k < l.length), k ≤ digs l → isD l[k] = false → digs l = k := by
  induction l with
  | nil => intro k h; simp at h
  | cons c l ih =>
    intro k h hk hd
    cases k with
    | zero => simp at hd; simp [digs, hd]
    | succ k =>
      simp only [digs] at hk ⊢
      split
      · rename_i hc
        rw [if_pos hc] at hk
        have := ih k (by simpa using h) (by omega) (by simpa using hd)
        omega
      · rename_i hc
        rw [if_neg hc] at hk
        omega
theorem digs_isD (l : List UInt8) : ∀ (k : Nat) (h : k < l.length), k < digs l → isD l[k] = true := by
  induction l with
  | nil => intro k h; simp at h
  | cons c l ih =>
    intro k h hk
    simp only [digs] at hk
    by_cases hc : isD c = true
    · rw [if_pos hc] at hk
      cases k with
      | zero => simpa using hc
      | succ k => simpa using ih k (by simpa using h) (by omega)
    · rw [if_neg hc] at hk; omega
theorem digs_append (l m : List UInt8) (h : ∀ c ∈ l, isD c = true) : digs (l ++ m) = l.length + digs m := by
  induction l with
  | nil => simp
  | cons c l ih =>
    have h1 : isD c = true := h c (by simp)
    simp only [List.cons_append, digs, h1, if_true, List.length_cons]
    rw [ih (fun x hx => h x (by simp [hx]))]
    omega
theorem isD_yes {c : UInt8} (h1 : 48 ≤ (c.toNat : Int)) (h2 : (c.toNat : Int) ≤ 57) : isD c = true := by
  simp [isD]; omega
theorem isD_lo {c : UInt8} (h1 : (c.toNat : Int) < 48) : isD c = false := by
  simp [isD]; omega
theorem isD_hi {c : UInt8} (h1 : 57 < (c.toNat : Int)) : isD c = false := by
  simp [isD]; omega
theorem isD_bounds {c : UInt8} (h : isD c = true) : 48 ≤ (c.toNat : Int) ∧ (c.toNat : Int) ≤ 57 := by
  simp [isD] at h; omega
theorem int_eq {k : IntKind} {a b : Int} (h : a = b) : Value.int k a = Value.int k b := by rw [h]
theorem ret_eq {k : IntKind} {a b : Int} (h : a = b) : Ending.returned (.int k a) = .returned (.int k b) := by rw [h]
theorem ret_str {a b : ByteArray} (h : a = b) : Ending.returned (.string a) = .returned (.string b) := by rw [h]
theorem ret_bool {a b : Bool} (h : a = b) : Ending.returned (.bool a) = .returned (.bool b) := by rw [h]
end Go.Proofs.Qxb6003379a
