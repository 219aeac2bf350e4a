/-
  DECIMAL NUMERALS AS LISTS OF BYTES: their value, and the saturating reading. No function of the program in sight.
-/
import Derived.Test.Qxb6003368aStr
namespace Go.Proofs.Qxb6003368a

def val (l : List UInt8) : Nat := l.foldl (fun n c => n * 10 + (c.toNat - 48)) 0
/-- the reading that stops at 2^30 -/
def sat (l : List UInt8) : Nat := l.foldl (fun n c => min (n * 10 + (c.toNat - 48)) 1073741824) 0

theorem val_from (l : List UInt8) : ∀ a : Nat, l.foldl (fun n c => n * 10 + (c.toNat - 48)) a = a * 10 ^ l.length + val l := by
  induction l with
  | nil => intro a; simp [val]
  | cons c l ih =>
    intro a
    simp only [List.foldl_cons, val, List.length_cons, Nat.zero_mul, Nat.zero_add]
    rw [ih, ih (c.toNat - 48), Nat.pow_succ, Nat.add_mul, Nat.mul_assoc, Nat.mul_comm 10 (10 ^ l.length)]
    omega
theorem val_cons (c : UInt8) (l : List UInt8) : val (c :: l) = (c.toNat - 48) * 10 ^ l.length + val l := by
  show List.foldl _ (0 * 10 + (c.toNat - 48)) l = _
  rw [val_from, Nat.zero_mul, Nat.zero_add]
theorem val_append (l m : List UInt8) : val (l ++ m) = val l * 10 ^ m.length + val m := by
  show List.foldl _ 0 (l ++ m) = _
  rw [List.foldl_append, val_from]; rfl
theorem val_zeros (n : Nat) : val (List.replicate n 48) = 0 := by
  induction n with
  | zero => rfl
  | succ n ih => rw [List.replicate_succ, val_cons, ih]; simp
theorem sat_snoc (l : List UInt8) (c : UInt8) : sat (l ++ [c]) = min (sat l * 10 + (c.toNat - 48)) 1073741824 := by
  simp [sat, List.foldl_append]
theorem sat_le (l : List UInt8) : ∀ k, k ≤ l.length → sat (l.take k) ≤ 1073741824 := by
  intro k hk
  cases k with
  | zero => simp [sat]
  | succ k =>
    rw [List.take_succ_eq_append_getElem (by omega), sat_snoc]
    exact Nat.min_le_right _ _
theorem val_snoc (l : List UInt8) (c : UInt8) : val (l ++ [c]) = val l * 10 + (c.toNat - 48) := by
  simp [val, List.foldl_append]
theorem sat_take (l : List UInt8) : ∀ k, k ≤ l.length → sat (l.take k) = min (val (l.take k)) 1073741824 := by
  intro k
  induction k with
  | zero => intro _; simp [sat, val]
  | succ k ih =>
    intro hk
    rw [List.take_succ_eq_append_getElem (by omega), sat_snoc, val_snoc, ih (by omega)]
    omega
theorem sat_val (l : List UInt8) : sat l = min (val l) 1073741824 := by
  have := sat_take l l.length (Nat.le_refl _)
  rwa [List.take_length] at this
end Go.Proofs.Qxb6003368a
