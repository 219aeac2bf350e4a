/-
  THE WALKS OF isDigit AND OF THE CLOSURE 'digits' in numberShape.
-/
import Derived.Test.Qxb6003379aProg
import Derived.Test.Qxb6003379aGram
import Derived.Test.Qxb6003379aQ
import Derived.WalkKit
import Derived.WalkSpells
import Derived.WalkLawsBesides
namespace Go.Proofs.Qxb6003379a
open Go.RowKit

set_option maxHeartbeats 400000 in
theorem isDigit_any (c : UInt8) (W : World) :
    Calls Try.prog 19 #[.int .u8 c.toNat] W fun e w' => e = .returned (.bool (isD c)) ∧ w' = W := by
  by_cases h1 : 48 ≤ (c.toNat : Int)
  · by_cases h2 : (c.toNat : Int) ≤ 57
    · have := isD_yes h1 h2
      have H : Hid (isD c = true) := this
      clear this
      go_enter Try.func19, Try.ntmps19
      go_wp2
      go_ret
      exact ⟨ret_bool (by rw [H.out]), rfl⟩
    · have := isD_hi (c := c) (by omega)
      have H : Hid (isD c = false) := this
      clear this
      go_enter Try.func19, Try.ntmps19
      go_wp2
      go_ret
      exact ⟨ret_bool (by rw [H.out]), rfl⟩
  · have := isD_lo (c := c) (by omega)
    have H : Hid (isD c = false) := this
    clear this
    go_enter Try.func19, Try.ntmps19
    go_wp2
    go_ret
    exact ⟨ret_bool (by rw [H.out]), rfl⟩

/-- digits counted from a place on -/
theorem digs_at {l : List UInt8} {k j : Nat} (hj : j < l.length) (hk : k ≤ j) (hd : j - k ≤ digs (l.drop k)) (h : isD l[j] = true) : j + 1 - k ≤ digs (l.drop k) := by
  have := digs_step (l.drop k) (j - k) (by simp; omega) hd (by simpa [show k + (j - k) = j by omega] using h)
  omega
theorem digs_no {l : List UInt8} {k j : Nat} (hj : j < l.length) (hk : k ≤ j) (hd : j - k ≤ digs (l.drop k)) (h : isD l[j] = false) : j = k + digs (l.drop k) := by
  have := digs_stop (l.drop k) (j - k) (by simp; omega) hd (by simpa [show k + (j - k) = j by omega] using h)
  omega
theorem digs_end {l : List UInt8} {k j : Nat} (hj : ¬ j < l.length) (hk : k ≤ j) (hd : j - k ≤ digs (l.drop k)) : j = k + digs (l.drop k) := by
  have := digs_le (l.drop k)
  simp at this
  omega

theorem digits_done {W : World} {k j d : Nat} (h : j = k + d) : Ending.returned (.bool (decide (k < j))) = .returned (.bool (decide (0 < d))) ∧ W.alloc (.cells #[.int .i64 j] 3) = W.alloc (.cells #[.int .i64 (k + d : Nat)] 3) := by
  subst h
  refine ⟨ret_bool ?_, rfl⟩
  rw [decide_eq_decide]; omega

set_option maxHeartbeats 1000000 in
theorem digits_any (l : List UInt8) (k : Nat) (hl : l.length ≤ 1048576) (hk : k ≤ l.length) (W : World) :
    Calls Try.prog 18 #[.pointer (some ⟨W.heap.size + 1, 0, none⟩), .pointer (some ⟨W.heap.size, 0, none⟩)] ((W.alloc (.cells #[.string (str l)] 9)).alloc (.cells #[.int .i64 k] 3))
      fun e w' => e = .returned (.bool (decide (0 < digs (l.drop k)))) ∧ w' = (W.alloc (.cells #[.string (str l)] 9)).alloc (.cells #[.int .i64 (k + digs (l.drop k) : Nat)] 3) := by
  have hz := str_size l
  have hb : (str l).size ≤ 1048576 := by omega
  have HZ : Hid ((str l).size = l.length) := hz
  clear hz
  go_enter Try.func18, Try.ntmps18
  go_wp2_with fail
  go_loopw [] (fun wr => ∃ j : Nat, k ≤ j ∧ j ≤ (str l).size ∧ j - k ≤ digs (l.drop k) ∧ wr = (W.alloc (.cells #[.string (str l)] 9)).alloc (.cells #[.int .i64 j] 3)) (fun wr => (str l).size - (intOf ((wr.cell? ⟨W.heap.size + 1, 0, none⟩).getD (.int .i64 0))).toNat)
  case atStart => exact ⟨k, Nat.le_refl _, by have := HZ.out; omega, by omega, rfl⟩
  case round =>
    obtain ⟨j, hj1, hj2, hj3, rfl⟩ := hrel
    by_cases hlt : j < (str l).size
    · have hlt' : j < l.length := by rw [← HZ.out]; exact hlt
      have hg := str_get l j hlt
      generalize hc : l[j] = c at hg
      have HC : Hid (l[j] = c) := hc
      clear hc
      cases hd : isD c
      · have HE : Hid (j = k + digs (l.drop k)) := digs_no hlt' hj1 hj3 (by rw [HC.out]; exact hd)
        go_wp2_with fail
        refine (isDigit_any c _).mono ?_
        rintro e w1 ⟨rfl, e1⟩
        subst e1
        rw [hd]
        go_wp2_with fail
        go_ret
        exact digits_done HE.out
      · have HE : Hid (j + 1 - k ≤ digs (l.drop k)) := digs_at hlt' hj1 hj3 (by rw [HC.out]; exact hd)
        go_wp2_with fail
        refine (isDigit_any c _).mono ?_
        rintro e w1 ⟨rfl, e1⟩
        subst e1
        rw [hd]
        go_wp2_with fail
        go_roundw
        case rel => exact ⟨j + 1, by omega, by omega, HE.out, by rw [show ((j : Int) + 1) = ((j + 1 : Nat) : Int) from by omega]⟩
        case measure => simp [intOf]; omega
    · have HE : Hid (j = k + digs (l.drop k)) := digs_end (by have := HZ.out; omega) hj1 hj3
      go_wp2_with fail
      go_ret
      exact digits_done HE.out
end Go.Proofs.Qxb6003379a
