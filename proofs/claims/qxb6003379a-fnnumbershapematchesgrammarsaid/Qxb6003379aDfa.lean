/-
  THE WALK OF numberDFA: the automaton's text computes 'run 0'.
-/
import Derived.Test.Qxb6003379aProg
import Derived.Test.Qxb6003379aGram
import Derived.WalkKit
import Derived.WalkSpells
import Derived.WalkLawsBesides
namespace Go.Proofs.Qxb6003379a
open Go.RowKit
set_option linter.unusedSimpArgs false
set_option linter.unusedVariables false

theorem pair_bool {a b c d : Bool} (h : a = c) (k : b = d) : Ending.returned (.tuple #[.bool a, .bool b]) = .returned (.tuple #[.bool c, .bool d]) := by rw [h, k]

theorem run_go {l : List UInt8} {k : Nat} {s v : Int} {c : UInt8} (h : run 0 l = run s (l.drop k)) (hk : k < l.length) (hc : l[k] = c) (hv : nxt s c.toNat = v) (h0 : 0 ≤ v) : run 0 l = run v (l.drop (k + 1)) := by
  rw [h, List.drop_eq_getElem_cons hk, hc]
  simp only [run, hv]
  rw [if_neg (by omega)]
theorem run_no {l : List UInt8} {k : Nat} {s : Int} {c : UInt8} (h : run 0 l = run s (l.drop k)) (hk : k < l.length) (hc : l[k] = c) (hv : nxt s c.toNat = -1) : run 0 l = (false, false) := by
  rw [h, List.drop_eq_getElem_cons hk, hc]
  simp only [run, hv]
  rw [if_pos (by omega)]

theorem nxt_nz0 {x : Int} (h1 : 49 ≤ x) (h2 : x ≤ 57) : nxt 0 x = 3 := by
  have a : nz x = true := by simp [nz]; omega
  have b : dgt x = true := by simp [dgt]; omega
  have c : ex x = false := by simp [ex]; omega
  simp [nxt, a, b, c]
  try omega
theorem nxt_lo0 {x : Int} (h1 : x < 48) (h2 : x ≠ 45) (h3 : x ≠ 46) (h4 : x ≠ 43) : nxt 0 x = -1 := by
  have a : nz x = false := by simp [nz]; omega
  have b : dgt x = false := by simp [dgt]; omega
  have c : ex x = false := by simp [ex]; omega
  simp [nxt, a, b, c]
  try omega
theorem nxt_hi0 {x : Int} (h1 : 57 < x) (h2 : x ≠ 101) (h3 : x ≠ 69) : nxt 0 x = -1 := by
  have a : nz x = false := by simp [nz]; omega
  have b : dgt x = false := by simp [dgt]; omega
  have c : ex x = false := by simp [ex]; omega
  simp [nxt, a, b, c]
  try omega
theorem nxt_nz1 {x : Int} (h1 : 49 ≤ x) (h2 : x ≤ 57) : nxt 1 x = 3 := by
  have a : nz x = true := by simp [nz]; omega
  have b : dgt x = true := by simp [dgt]; omega
  have c : ex x = false := by simp [ex]; omega
  simp [nxt, a, b, c]
  try omega
theorem nxt_lo1 {x : Int} (h1 : x < 48) (h2 : x ≠ 45) (h3 : x ≠ 46) (h4 : x ≠ 43) : nxt 1 x = -1 := by
  have a : nz x = false := by simp [nz]; omega
  have b : dgt x = false := by simp [dgt]; omega
  have c : ex x = false := by simp [ex]; omega
  simp [nxt, a, b, c]
  try omega
theorem nxt_hi1 {x : Int} (h1 : 57 < x) (h2 : x ≠ 101) (h3 : x ≠ 69) : nxt 1 x = -1 := by
  have a : nz x = false := by simp [nz]; omega
  have b : dgt x = false := by simp [dgt]; omega
  have c : ex x = false := by simp [ex]; omega
  simp [nxt, a, b, c]
  try omega
theorem nxt_nz2 {x : Int} (h1 : 49 ≤ x) (h2 : x ≤ 57) : nxt 2 x = -1 := by
  have a : nz x = true := by simp [nz]; omega
  have b : dgt x = true := by simp [dgt]; omega
  have c : ex x = false := by simp [ex]; omega
  simp [nxt, a, b, c]
  try omega
theorem nxt_lo2 {x : Int} (h1 : x < 48) (h2 : x ≠ 45) (h3 : x ≠ 46) (h4 : x ≠ 43) : nxt 2 x = -1 := by
  have a : nz x = false := by simp [nz]; omega
  have b : dgt x = false := by simp [dgt]; omega
  have c : ex x = false := by simp [ex]; omega
  simp [nxt, a, b, c]
  try omega
theorem nxt_hi2 {x : Int} (h1 : 57 < x) (h2 : x ≠ 101) (h3 : x ≠ 69) : nxt 2 x = -1 := by
  have a : nz x = false := by simp [nz]; omega
  have b : dgt x = false := by simp [dgt]; omega
  have c : ex x = false := by simp [ex]; omega
  simp [nxt, a, b, c]
  try omega
theorem nxt_nz3 {x : Int} (h1 : 49 ≤ x) (h2 : x ≤ 57) : nxt 3 x = 3 := by
  have a : nz x = true := by simp [nz]; omega
  have b : dgt x = true := by simp [dgt]; omega
  have c : ex x = false := by simp [ex]; omega
  simp [nxt, a, b, c]
  try omega
theorem nxt_lo3 {x : Int} (h1 : x < 48) (h2 : x ≠ 45) (h3 : x ≠ 46) (h4 : x ≠ 43) : nxt 3 x = -1 := by
  have a : nz x = false := by simp [nz]; omega
  have b : dgt x = false := by simp [dgt]; omega
  have c : ex x = false := by simp [ex]; omega
  simp [nxt, a, b, c]
  try omega
theorem nxt_hi3 {x : Int} (h1 : 57 < x) (h2 : x ≠ 101) (h3 : x ≠ 69) : nxt 3 x = -1 := by
  have a : nz x = false := by simp [nz]; omega
  have b : dgt x = false := by simp [dgt]; omega
  have c : ex x = false := by simp [ex]; omega
  simp [nxt, a, b, c]
  try omega
theorem nxt_nz4 {x : Int} (h1 : 49 ≤ x) (h2 : x ≤ 57) : nxt 4 x = 5 := by
  have a : nz x = true := by simp [nz]; omega
  have b : dgt x = true := by simp [dgt]; omega
  have c : ex x = false := by simp [ex]; omega
  simp [nxt, a, b, c]
  try omega
theorem nxt_lo4 {x : Int} (h1 : x < 48) (h2 : x ≠ 45) (h3 : x ≠ 46) (h4 : x ≠ 43) : nxt 4 x = -1 := by
  have a : nz x = false := by simp [nz]; omega
  have b : dgt x = false := by simp [dgt]; omega
  have c : ex x = false := by simp [ex]; omega
  simp [nxt, a, b, c]
  try omega
theorem nxt_hi4 {x : Int} (h1 : 57 < x) (h2 : x ≠ 101) (h3 : x ≠ 69) : nxt 4 x = -1 := by
  have a : nz x = false := by simp [nz]; omega
  have b : dgt x = false := by simp [dgt]; omega
  have c : ex x = false := by simp [ex]; omega
  simp [nxt, a, b, c]
  try omega
theorem nxt_nz5 {x : Int} (h1 : 49 ≤ x) (h2 : x ≤ 57) : nxt 5 x = 5 := by
  have a : nz x = true := by simp [nz]; omega
  have b : dgt x = true := by simp [dgt]; omega
  have c : ex x = false := by simp [ex]; omega
  simp [nxt, a, b, c]
  try omega
theorem nxt_lo5 {x : Int} (h1 : x < 48) (h2 : x ≠ 45) (h3 : x ≠ 46) (h4 : x ≠ 43) : nxt 5 x = -1 := by
  have a : nz x = false := by simp [nz]; omega
  have b : dgt x = false := by simp [dgt]; omega
  have c : ex x = false := by simp [ex]; omega
  simp [nxt, a, b, c]
  try omega
theorem nxt_hi5 {x : Int} (h1 : 57 < x) (h2 : x ≠ 101) (h3 : x ≠ 69) : nxt 5 x = -1 := by
  have a : nz x = false := by simp [nz]; omega
  have b : dgt x = false := by simp [dgt]; omega
  have c : ex x = false := by simp [ex]; omega
  simp [nxt, a, b, c]
  try omega
theorem nxt_nz6 {x : Int} (h1 : 49 ≤ x) (h2 : x ≤ 57) : nxt 6 x = 8 := by
  have a : nz x = true := by simp [nz]; omega
  have b : dgt x = true := by simp [dgt]; omega
  have c : ex x = false := by simp [ex]; omega
  simp [nxt, a, b, c]
  try omega
theorem nxt_lo6 {x : Int} (h1 : x < 48) (h2 : x ≠ 45) (h3 : x ≠ 46) (h4 : x ≠ 43) : nxt 6 x = -1 := by
  have a : nz x = false := by simp [nz]; omega
  have b : dgt x = false := by simp [dgt]; omega
  have c : ex x = false := by simp [ex]; omega
  simp [nxt, a, b, c]
  try omega
theorem nxt_hi6 {x : Int} (h1 : 57 < x) (h2 : x ≠ 101) (h3 : x ≠ 69) : nxt 6 x = -1 := by
  have a : nz x = false := by simp [nz]; omega
  have b : dgt x = false := by simp [dgt]; omega
  have c : ex x = false := by simp [ex]; omega
  simp [nxt, a, b, c]
  try omega
theorem nxt_nz7 {x : Int} (h1 : 49 ≤ x) (h2 : x ≤ 57) : nxt 7 x = 8 := by
  have a : nz x = true := by simp [nz]; omega
  have b : dgt x = true := by simp [dgt]; omega
  have c : ex x = false := by simp [ex]; omega
  simp [nxt, a, b, c]
  try omega
theorem nxt_lo7 {x : Int} (h1 : x < 48) (h2 : x ≠ 45) (h3 : x ≠ 46) (h4 : x ≠ 43) : nxt 7 x = -1 := by
  have a : nz x = false := by simp [nz]; omega
  have b : dgt x = false := by simp [dgt]; omega
  have c : ex x = false := by simp [ex]; omega
  simp [nxt, a, b, c]
  try omega
theorem nxt_hi7 {x : Int} (h1 : 57 < x) (h2 : x ≠ 101) (h3 : x ≠ 69) : nxt 7 x = -1 := by
  have a : nz x = false := by simp [nz]; omega
  have b : dgt x = false := by simp [dgt]; omega
  have c : ex x = false := by simp [ex]; omega
  simp [nxt, a, b, c]
  try omega
theorem nxt_nz8 {x : Int} (h1 : 49 ≤ x) (h2 : x ≤ 57) : nxt 8 x = 8 := by
  have a : nz x = true := by simp [nz]; omega
  have b : dgt x = true := by simp [dgt]; omega
  have c : ex x = false := by simp [ex]; omega
  simp [nxt, a, b, c]
  try omega
theorem nxt_lo8 {x : Int} (h1 : x < 48) (h2 : x ≠ 45) (h3 : x ≠ 46) (h4 : x ≠ 43) : nxt 8 x = -1 := by
  have a : nz x = false := by simp [nz]; omega
  have b : dgt x = false := by simp [dgt]; omega
  have c : ex x = false := by simp [ex]; omega
  simp [nxt, a, b, c]
  try omega
theorem nxt_hi8 {x : Int} (h1 : 57 < x) (h2 : x ≠ 101) (h3 : x ≠ 69) : nxt 8 x = -1 := by
  have a : nz x = false := by simp [nz]; omega
  have b : dgt x = false := by simp [dgt]; omega
  have c : ex x = false := by simp [ex]; omega
  simp [nxt, a, b, c]
  try omega

set_option maxRecDepth 100000 in
set_option maxHeartbeats 20000000 in
theorem dfa_any (l : List UInt8) (hl : l.length ≤ 1048576) (W : World) :
    Calls Try.prog 9 #[.string (str l)] W fun e w' => e = .returned (.tuple #[.bool (run 0 l).1, .bool (run 0 l).2]) ∧ w' = W := by
  have hz := str_size l
  have hb : (str l).size ≤ 1048576 := by omega
  have HZ : Hid ((str l).size = l.length) := hz
  clear hz
  go_enter Try.func9, Try.ntmps9
  go_wp2_with fail
  go_loop [4, 5] (fun st i => ∃ (k : Nat) (s : Int), k ≤ (str l).size ∧ 0 ≤ s ∧ s ≤ 8 ∧ i = .int .i64 k ∧ st = .int .i64 s ∧ Hid (run 0 l = run s (l.drop k))) (fun _ i => (str l).size - (intOf i).toNat)
  case atStart => exact ⟨0, 0, Nat.zero_le _, by omega, by omega, rfl, rfl, rfl⟩
  case round =>
    obtain ⟨k, s, hk, hs1, hs2, rfl, rfl, HR⟩ := hrel
    by_cases hlt : k < (str l).size
    · have hlt' : k < l.length := by rw [← HZ.out]; exact hlt
      have hg := str_get l k hlt
      generalize hc : l[k] = c at hg
      have HC : Hid (l[k] = c) := hc
      clear hc
      have hsd : s = 0 ∨ s = 1 ∨ s = 2 ∨ s = 3 ∨ s = 4 ∨ s = 5 ∨ s = 6 ∨ s = 7 ∨ s = 8 := by omega
      clear hs1 hs2
      by_cases c45 : (c.toNat : Int) = 45
      · rcases hsd with rfl | rfl | rfl | rfl | rfl | rfl | rfl | rfl | rfl
        · have HN : Hid (run 0 l = run 1 (l.drop (k + 1))) := run_go HR.out hlt' HC.out (by rw [c45]; rfl) (by omega)
          go_wp2_with fail
          go_round
          case rel => exact ⟨k + 1, 1, by omega, by omega, by omega, by go_num, rfl, HN⟩
          case measure => simp [intOf]; omega
        · have HN : Hid (run 0 l = (false, false)) := run_no HR.out hlt' HC.out (by rw [c45]; rfl)
          go_wp2_with fail
          go_ret2
          exact ⟨pair_bool (by rw [HN.out]) (by rw [HN.out]), rfl⟩
        · have HN : Hid (run 0 l = (false, false)) := run_no HR.out hlt' HC.out (by rw [c45]; rfl)
          go_wp2_with fail
          go_ret2
          exact ⟨pair_bool (by rw [HN.out]) (by rw [HN.out]), rfl⟩
        · have HN : Hid (run 0 l = (false, false)) := run_no HR.out hlt' HC.out (by rw [c45]; rfl)
          go_wp2_with fail
          go_ret2
          exact ⟨pair_bool (by rw [HN.out]) (by rw [HN.out]), rfl⟩
        · have HN : Hid (run 0 l = (false, false)) := run_no HR.out hlt' HC.out (by rw [c45]; rfl)
          go_wp2_with fail
          go_ret2
          exact ⟨pair_bool (by rw [HN.out]) (by rw [HN.out]), rfl⟩
        · have HN : Hid (run 0 l = (false, false)) := run_no HR.out hlt' HC.out (by rw [c45]; rfl)
          go_wp2_with fail
          go_ret2
          exact ⟨pair_bool (by rw [HN.out]) (by rw [HN.out]), rfl⟩
        · have HN : Hid (run 0 l = run 7 (l.drop (k + 1))) := run_go HR.out hlt' HC.out (by rw [c45]; rfl) (by omega)
          go_wp2_with fail
          go_round
          case rel => exact ⟨k + 1, 7, by omega, by omega, by omega, by go_num, rfl, HN⟩
          case measure => simp [intOf]; omega
        · have HN : Hid (run 0 l = (false, false)) := run_no HR.out hlt' HC.out (by rw [c45]; rfl)
          go_wp2_with fail
          go_ret2
          exact ⟨pair_bool (by rw [HN.out]) (by rw [HN.out]), rfl⟩
        · have HN : Hid (run 0 l = (false, false)) := run_no HR.out hlt' HC.out (by rw [c45]; rfl)
          go_wp2_with fail
          go_ret2
          exact ⟨pair_bool (by rw [HN.out]) (by rw [HN.out]), rfl⟩
      by_cases c48 : (c.toNat : Int) = 48
      · rcases hsd with rfl | rfl | rfl | rfl | rfl | rfl | rfl | rfl | rfl
        · have HN : Hid (run 0 l = run 2 (l.drop (k + 1))) := run_go HR.out hlt' HC.out (by rw [c48]; rfl) (by omega)
          go_wp2_with fail
          go_round
          case rel => exact ⟨k + 1, 2, by omega, by omega, by omega, by go_num, rfl, HN⟩
          case measure => simp [intOf]; omega
        · have HN : Hid (run 0 l = run 2 (l.drop (k + 1))) := run_go HR.out hlt' HC.out (by rw [c48]; rfl) (by omega)
          go_wp2_with fail
          go_round
          case rel => exact ⟨k + 1, 2, by omega, by omega, by omega, by go_num, rfl, HN⟩
          case measure => simp [intOf]; omega
        · have HN : Hid (run 0 l = (false, false)) := run_no HR.out hlt' HC.out (by rw [c48]; rfl)
          go_wp2_with fail
          go_ret2
          exact ⟨pair_bool (by rw [HN.out]) (by rw [HN.out]), rfl⟩
        · have HN : Hid (run 0 l = run 3 (l.drop (k + 1))) := run_go HR.out hlt' HC.out (by rw [c48]; rfl) (by omega)
          go_wp2_with fail
          go_round
          case rel => exact ⟨k + 1, 3, by omega, by omega, by omega, by go_num, rfl, HN⟩
          case measure => simp [intOf]; omega
        · have HN : Hid (run 0 l = run 5 (l.drop (k + 1))) := run_go HR.out hlt' HC.out (by rw [c48]; rfl) (by omega)
          go_wp2_with fail
          go_round
          case rel => exact ⟨k + 1, 5, by omega, by omega, by omega, by go_num, rfl, HN⟩
          case measure => simp [intOf]; omega
        · have HN : Hid (run 0 l = run 5 (l.drop (k + 1))) := run_go HR.out hlt' HC.out (by rw [c48]; rfl) (by omega)
          go_wp2_with fail
          go_round
          case rel => exact ⟨k + 1, 5, by omega, by omega, by omega, by go_num, rfl, HN⟩
          case measure => simp [intOf]; omega
        · have HN : Hid (run 0 l = run 8 (l.drop (k + 1))) := run_go HR.out hlt' HC.out (by rw [c48]; rfl) (by omega)
          go_wp2_with fail
          go_round
          case rel => exact ⟨k + 1, 8, by omega, by omega, by omega, by go_num, rfl, HN⟩
          case measure => simp [intOf]; omega
        · have HN : Hid (run 0 l = run 8 (l.drop (k + 1))) := run_go HR.out hlt' HC.out (by rw [c48]; rfl) (by omega)
          go_wp2_with fail
          go_round
          case rel => exact ⟨k + 1, 8, by omega, by omega, by omega, by go_num, rfl, HN⟩
          case measure => simp [intOf]; omega
        · have HN : Hid (run 0 l = run 8 (l.drop (k + 1))) := run_go HR.out hlt' HC.out (by rw [c48]; rfl) (by omega)
          go_wp2_with fail
          go_round
          case rel => exact ⟨k + 1, 8, by omega, by omega, by omega, by go_num, rfl, HN⟩
          case measure => simp [intOf]; omega
      by_cases c46 : (c.toNat : Int) = 46
      · rcases hsd with rfl | rfl | rfl | rfl | rfl | rfl | rfl | rfl | rfl
        · have HN : Hid (run 0 l = (false, false)) := run_no HR.out hlt' HC.out (by rw [c46]; rfl)
          go_wp2_with fail
          go_ret2
          exact ⟨pair_bool (by rw [HN.out]) (by rw [HN.out]), rfl⟩
        · have HN : Hid (run 0 l = (false, false)) := run_no HR.out hlt' HC.out (by rw [c46]; rfl)
          go_wp2_with fail
          go_ret2
          exact ⟨pair_bool (by rw [HN.out]) (by rw [HN.out]), rfl⟩
        · have HN : Hid (run 0 l = run 4 (l.drop (k + 1))) := run_go HR.out hlt' HC.out (by rw [c46]; rfl) (by omega)
          go_wp2_with fail
          go_round
          case rel => exact ⟨k + 1, 4, by omega, by omega, by omega, by go_num, rfl, HN⟩
          case measure => simp [intOf]; omega
        · have HN : Hid (run 0 l = run 4 (l.drop (k + 1))) := run_go HR.out hlt' HC.out (by rw [c46]; rfl) (by omega)
          go_wp2_with fail
          go_round
          case rel => exact ⟨k + 1, 4, by omega, by omega, by omega, by go_num, rfl, HN⟩
          case measure => simp [intOf]; omega
        · have HN : Hid (run 0 l = (false, false)) := run_no HR.out hlt' HC.out (by rw [c46]; rfl)
          go_wp2_with fail
          go_ret2
          exact ⟨pair_bool (by rw [HN.out]) (by rw [HN.out]), rfl⟩
        · have HN : Hid (run 0 l = (false, false)) := run_no HR.out hlt' HC.out (by rw [c46]; rfl)
          go_wp2_with fail
          go_ret2
          exact ⟨pair_bool (by rw [HN.out]) (by rw [HN.out]), rfl⟩
        · have HN : Hid (run 0 l = (false, false)) := run_no HR.out hlt' HC.out (by rw [c46]; rfl)
          go_wp2_with fail
          go_ret2
          exact ⟨pair_bool (by rw [HN.out]) (by rw [HN.out]), rfl⟩
        · have HN : Hid (run 0 l = (false, false)) := run_no HR.out hlt' HC.out (by rw [c46]; rfl)
          go_wp2_with fail
          go_ret2
          exact ⟨pair_bool (by rw [HN.out]) (by rw [HN.out]), rfl⟩
        · have HN : Hid (run 0 l = (false, false)) := run_no HR.out hlt' HC.out (by rw [c46]; rfl)
          go_wp2_with fail
          go_ret2
          exact ⟨pair_bool (by rw [HN.out]) (by rw [HN.out]), rfl⟩
      by_cases c101 : (c.toNat : Int) = 101
      · rcases hsd with rfl | rfl | rfl | rfl | rfl | rfl | rfl | rfl | rfl
        · have HN : Hid (run 0 l = (false, false)) := run_no HR.out hlt' HC.out (by rw [c101]; rfl)
          go_wp2_with fail
          go_ret2
          exact ⟨pair_bool (by rw [HN.out]) (by rw [HN.out]), rfl⟩
        · have HN : Hid (run 0 l = (false, false)) := run_no HR.out hlt' HC.out (by rw [c101]; rfl)
          go_wp2_with fail
          go_ret2
          exact ⟨pair_bool (by rw [HN.out]) (by rw [HN.out]), rfl⟩
        · have HN : Hid (run 0 l = run 6 (l.drop (k + 1))) := run_go HR.out hlt' HC.out (by rw [c101]; rfl) (by omega)
          go_wp2_with fail
          go_round
          case rel => exact ⟨k + 1, 6, by omega, by omega, by omega, by go_num, rfl, HN⟩
          case measure => simp [intOf]; omega
        · have HN : Hid (run 0 l = run 6 (l.drop (k + 1))) := run_go HR.out hlt' HC.out (by rw [c101]; rfl) (by omega)
          go_wp2_with fail
          go_round
          case rel => exact ⟨k + 1, 6, by omega, by omega, by omega, by go_num, rfl, HN⟩
          case measure => simp [intOf]; omega
        · have HN : Hid (run 0 l = (false, false)) := run_no HR.out hlt' HC.out (by rw [c101]; rfl)
          go_wp2_with fail
          go_ret2
          exact ⟨pair_bool (by rw [HN.out]) (by rw [HN.out]), rfl⟩
        · have HN : Hid (run 0 l = run 6 (l.drop (k + 1))) := run_go HR.out hlt' HC.out (by rw [c101]; rfl) (by omega)
          go_wp2_with fail
          go_round
          case rel => exact ⟨k + 1, 6, by omega, by omega, by omega, by go_num, rfl, HN⟩
          case measure => simp [intOf]; omega
        · have HN : Hid (run 0 l = (false, false)) := run_no HR.out hlt' HC.out (by rw [c101]; rfl)
          go_wp2_with fail
          go_ret2
          exact ⟨pair_bool (by rw [HN.out]) (by rw [HN.out]), rfl⟩
        · have HN : Hid (run 0 l = (false, false)) := run_no HR.out hlt' HC.out (by rw [c101]; rfl)
          go_wp2_with fail
          go_ret2
          exact ⟨pair_bool (by rw [HN.out]) (by rw [HN.out]), rfl⟩
        · have HN : Hid (run 0 l = (false, false)) := run_no HR.out hlt' HC.out (by rw [c101]; rfl)
          go_wp2_with fail
          go_ret2
          exact ⟨pair_bool (by rw [HN.out]) (by rw [HN.out]), rfl⟩
      by_cases c69 : (c.toNat : Int) = 69
      · rcases hsd with rfl | rfl | rfl | rfl | rfl | rfl | rfl | rfl | rfl
        · have HN : Hid (run 0 l = (false, false)) := run_no HR.out hlt' HC.out (by rw [c69]; rfl)
          go_wp2_with fail
          go_ret2
          exact ⟨pair_bool (by rw [HN.out]) (by rw [HN.out]), rfl⟩
        · have HN : Hid (run 0 l = (false, false)) := run_no HR.out hlt' HC.out (by rw [c69]; rfl)
          go_wp2_with fail
          go_ret2
          exact ⟨pair_bool (by rw [HN.out]) (by rw [HN.out]), rfl⟩
        · have HN : Hid (run 0 l = run 6 (l.drop (k + 1))) := run_go HR.out hlt' HC.out (by rw [c69]; rfl) (by omega)
          go_wp2_with fail
          go_round
          case rel => exact ⟨k + 1, 6, by omega, by omega, by omega, by go_num, rfl, HN⟩
          case measure => simp [intOf]; omega
        · have HN : Hid (run 0 l = run 6 (l.drop (k + 1))) := run_go HR.out hlt' HC.out (by rw [c69]; rfl) (by omega)
          go_wp2_with fail
          go_round
          case rel => exact ⟨k + 1, 6, by omega, by omega, by omega, by go_num, rfl, HN⟩
          case measure => simp [intOf]; omega
        · have HN : Hid (run 0 l = (false, false)) := run_no HR.out hlt' HC.out (by rw [c69]; rfl)
          go_wp2_with fail
          go_ret2
          exact ⟨pair_bool (by rw [HN.out]) (by rw [HN.out]), rfl⟩
        · have HN : Hid (run 0 l = run 6 (l.drop (k + 1))) := run_go HR.out hlt' HC.out (by rw [c69]; rfl) (by omega)
          go_wp2_with fail
          go_round
          case rel => exact ⟨k + 1, 6, by omega, by omega, by omega, by go_num, rfl, HN⟩
          case measure => simp [intOf]; omega
        · have HN : Hid (run 0 l = (false, false)) := run_no HR.out hlt' HC.out (by rw [c69]; rfl)
          go_wp2_with fail
          go_ret2
          exact ⟨pair_bool (by rw [HN.out]) (by rw [HN.out]), rfl⟩
        · have HN : Hid (run 0 l = (false, false)) := run_no HR.out hlt' HC.out (by rw [c69]; rfl)
          go_wp2_with fail
          go_ret2
          exact ⟨pair_bool (by rw [HN.out]) (by rw [HN.out]), rfl⟩
        · have HN : Hid (run 0 l = (false, false)) := run_no HR.out hlt' HC.out (by rw [c69]; rfl)
          go_wp2_with fail
          go_ret2
          exact ⟨pair_bool (by rw [HN.out]) (by rw [HN.out]), rfl⟩
      by_cases c43 : (c.toNat : Int) = 43
      · rcases hsd with rfl | rfl | rfl | rfl | rfl | rfl | rfl | rfl | rfl
        · have HN : Hid (run 0 l = (false, false)) := run_no HR.out hlt' HC.out (by rw [c43]; rfl)
          go_wp2_with fail
          go_ret2
          exact ⟨pair_bool (by rw [HN.out]) (by rw [HN.out]), rfl⟩
        · have HN : Hid (run 0 l = (false, false)) := run_no HR.out hlt' HC.out (by rw [c43]; rfl)
          go_wp2_with fail
          go_ret2
          exact ⟨pair_bool (by rw [HN.out]) (by rw [HN.out]), rfl⟩
        · have HN : Hid (run 0 l = (false, false)) := run_no HR.out hlt' HC.out (by rw [c43]; rfl)
          go_wp2_with fail
          go_ret2
          exact ⟨pair_bool (by rw [HN.out]) (by rw [HN.out]), rfl⟩
        · have HN : Hid (run 0 l = (false, false)) := run_no HR.out hlt' HC.out (by rw [c43]; rfl)
          go_wp2_with fail
          go_ret2
          exact ⟨pair_bool (by rw [HN.out]) (by rw [HN.out]), rfl⟩
        · have HN : Hid (run 0 l = (false, false)) := run_no HR.out hlt' HC.out (by rw [c43]; rfl)
          go_wp2_with fail
          go_ret2
          exact ⟨pair_bool (by rw [HN.out]) (by rw [HN.out]), rfl⟩
        · have HN : Hid (run 0 l = (false, false)) := run_no HR.out hlt' HC.out (by rw [c43]; rfl)
          go_wp2_with fail
          go_ret2
          exact ⟨pair_bool (by rw [HN.out]) (by rw [HN.out]), rfl⟩
        · have HN : Hid (run 0 l = run 7 (l.drop (k + 1))) := run_go HR.out hlt' HC.out (by rw [c43]; rfl) (by omega)
          go_wp2_with fail
          go_round
          case rel => exact ⟨k + 1, 7, by omega, by omega, by omega, by go_num, rfl, HN⟩
          case measure => simp [intOf]; omega
        · have HN : Hid (run 0 l = (false, false)) := run_no HR.out hlt' HC.out (by rw [c43]; rfl)
          go_wp2_with fail
          go_ret2
          exact ⟨pair_bool (by rw [HN.out]) (by rw [HN.out]), rfl⟩
        · have HN : Hid (run 0 l = (false, false)) := run_no HR.out hlt' HC.out (by rw [c43]; rfl)
          go_wp2_with fail
          go_ret2
          exact ⟨pair_bool (by rw [HN.out]) (by rw [HN.out]), rfl⟩
      by_cases hlo : (c.toNat : Int) < 48
      · have b45 : ((c.toNat : Int) == 45) = false := beq_eq_false_iff_ne.2 c45
        have b48 : ((c.toNat : Int) == 48) = false := beq_eq_false_iff_ne.2 c48
        have b46 : ((c.toNat : Int) == 46) = false := beq_eq_false_iff_ne.2 c46
        have b101 : ((c.toNat : Int) == 101) = false := beq_eq_false_iff_ne.2 c101
        have b69 : ((c.toNat : Int) == 69) = false := beq_eq_false_iff_ne.2 c69
        have b43 : ((c.toNat : Int) == 43) = false := beq_eq_false_iff_ne.2 c43
        rcases hsd with rfl | rfl | rfl | rfl | rfl | rfl | rfl | rfl | rfl
        · have HN : Hid (run 0 l = (false, false)) := run_no HR.out hlt' HC.out (nxt_lo0 hlo c45 c46 c43)
          clear c45 c48 c46 c101 c69 c43
          go_wp2_with fail
          go_ret2
          exact ⟨pair_bool (by rw [HN.out]) (by rw [HN.out]), rfl⟩
        · have HN : Hid (run 0 l = (false, false)) := run_no HR.out hlt' HC.out (nxt_lo1 hlo c45 c46 c43)
          clear c45 c48 c46 c101 c69 c43
          go_wp2_with fail
          go_ret2
          exact ⟨pair_bool (by rw [HN.out]) (by rw [HN.out]), rfl⟩
        · have HN : Hid (run 0 l = (false, false)) := run_no HR.out hlt' HC.out (nxt_lo2 hlo c45 c46 c43)
          clear c45 c48 c46 c101 c69 c43
          go_wp2_with fail
          go_ret2
          exact ⟨pair_bool (by rw [HN.out]) (by rw [HN.out]), rfl⟩
        · have HN : Hid (run 0 l = (false, false)) := run_no HR.out hlt' HC.out (nxt_lo3 hlo c45 c46 c43)
          clear c45 c48 c46 c101 c69 c43
          go_wp2_with fail
          go_ret2
          exact ⟨pair_bool (by rw [HN.out]) (by rw [HN.out]), rfl⟩
        · have HN : Hid (run 0 l = (false, false)) := run_no HR.out hlt' HC.out (nxt_lo4 hlo c45 c46 c43)
          clear c45 c48 c46 c101 c69 c43
          go_wp2_with fail
          go_ret2
          exact ⟨pair_bool (by rw [HN.out]) (by rw [HN.out]), rfl⟩
        · have HN : Hid (run 0 l = (false, false)) := run_no HR.out hlt' HC.out (nxt_lo5 hlo c45 c46 c43)
          clear c45 c48 c46 c101 c69 c43
          go_wp2_with fail
          go_ret2
          exact ⟨pair_bool (by rw [HN.out]) (by rw [HN.out]), rfl⟩
        · have HN : Hid (run 0 l = (false, false)) := run_no HR.out hlt' HC.out (nxt_lo6 hlo c45 c46 c43)
          clear c45 c48 c46 c101 c69 c43
          go_wp2_with fail
          go_ret2
          exact ⟨pair_bool (by rw [HN.out]) (by rw [HN.out]), rfl⟩
        · have HN : Hid (run 0 l = (false, false)) := run_no HR.out hlt' HC.out (nxt_lo7 hlo c45 c46 c43)
          clear c45 c48 c46 c101 c69 c43
          go_wp2_with fail
          go_ret2
          exact ⟨pair_bool (by rw [HN.out]) (by rw [HN.out]), rfl⟩
        · have HN : Hid (run 0 l = (false, false)) := run_no HR.out hlt' HC.out (nxt_lo8 hlo c45 c46 c43)
          clear c45 c48 c46 c101 c69 c43
          go_wp2_with fail
          go_ret2
          exact ⟨pair_bool (by rw [HN.out]) (by rw [HN.out]), rfl⟩
      by_cases hhi : 57 < (c.toNat : Int)
      · have b45 : ((c.toNat : Int) == 45) = false := beq_eq_false_iff_ne.2 c45
        have b48 : ((c.toNat : Int) == 48) = false := beq_eq_false_iff_ne.2 c48
        have b46 : ((c.toNat : Int) == 46) = false := beq_eq_false_iff_ne.2 c46
        have b101 : ((c.toNat : Int) == 101) = false := beq_eq_false_iff_ne.2 c101
        have b69 : ((c.toNat : Int) == 69) = false := beq_eq_false_iff_ne.2 c69
        have b43 : ((c.toNat : Int) == 43) = false := beq_eq_false_iff_ne.2 c43
        rcases hsd with rfl | rfl | rfl | rfl | rfl | rfl | rfl | rfl | rfl
        · have HN : Hid (run 0 l = (false, false)) := run_no HR.out hlt' HC.out (nxt_hi0 hhi c101 c69)
          clear c45 c48 c46 c101 c69 c43
          go_wp2_with fail
          go_ret2
          exact ⟨pair_bool (by rw [HN.out]) (by rw [HN.out]), rfl⟩
        · have HN : Hid (run 0 l = (false, false)) := run_no HR.out hlt' HC.out (nxt_hi1 hhi c101 c69)
          clear c45 c48 c46 c101 c69 c43
          go_wp2_with fail
          go_ret2
          exact ⟨pair_bool (by rw [HN.out]) (by rw [HN.out]), rfl⟩
        · have HN : Hid (run 0 l = (false, false)) := run_no HR.out hlt' HC.out (nxt_hi2 hhi c101 c69)
          clear c45 c48 c46 c101 c69 c43
          go_wp2_with fail
          go_ret2
          exact ⟨pair_bool (by rw [HN.out]) (by rw [HN.out]), rfl⟩
        · have HN : Hid (run 0 l = (false, false)) := run_no HR.out hlt' HC.out (nxt_hi3 hhi c101 c69)
          clear c45 c48 c46 c101 c69 c43
          go_wp2_with fail
          go_ret2
          exact ⟨pair_bool (by rw [HN.out]) (by rw [HN.out]), rfl⟩
        · have HN : Hid (run 0 l = (false, false)) := run_no HR.out hlt' HC.out (nxt_hi4 hhi c101 c69)
          clear c45 c48 c46 c101 c69 c43
          go_wp2_with fail
          go_ret2
          exact ⟨pair_bool (by rw [HN.out]) (by rw [HN.out]), rfl⟩
        · have HN : Hid (run 0 l = (false, false)) := run_no HR.out hlt' HC.out (nxt_hi5 hhi c101 c69)
          clear c45 c48 c46 c101 c69 c43
          go_wp2_with fail
          go_ret2
          exact ⟨pair_bool (by rw [HN.out]) (by rw [HN.out]), rfl⟩
        · have HN : Hid (run 0 l = (false, false)) := run_no HR.out hlt' HC.out (nxt_hi6 hhi c101 c69)
          clear c45 c48 c46 c101 c69 c43
          go_wp2_with fail
          go_ret2
          exact ⟨pair_bool (by rw [HN.out]) (by rw [HN.out]), rfl⟩
        · have HN : Hid (run 0 l = (false, false)) := run_no HR.out hlt' HC.out (nxt_hi7 hhi c101 c69)
          clear c45 c48 c46 c101 c69 c43
          go_wp2_with fail
          go_ret2
          exact ⟨pair_bool (by rw [HN.out]) (by rw [HN.out]), rfl⟩
        · have HN : Hid (run 0 l = (false, false)) := run_no HR.out hlt' HC.out (nxt_hi8 hhi c101 c69)
          clear c45 c48 c46 c101 c69 c43
          go_wp2_with fail
          go_ret2
          exact ⟨pair_bool (by rw [HN.out]) (by rw [HN.out]), rfl⟩
      have b45 : ((c.toNat : Int) == 45) = false := beq_eq_false_iff_ne.2 c45
      have b48 : ((c.toNat : Int) == 48) = false := beq_eq_false_iff_ne.2 c48
      have b46 : ((c.toNat : Int) == 46) = false := beq_eq_false_iff_ne.2 c46
      have b101 : ((c.toNat : Int) == 101) = false := beq_eq_false_iff_ne.2 c101
      have b69 : ((c.toNat : Int) == 69) = false := beq_eq_false_iff_ne.2 c69
      have b43 : ((c.toNat : Int) == 43) = false := beq_eq_false_iff_ne.2 c43
      have d1 : (49 : Int) ≤ (c.toNat : Int) := by omega
      have d2 : (c.toNat : Int) ≤ 57 := by omega
      rcases hsd with rfl | rfl | rfl | rfl | rfl | rfl | rfl | rfl | rfl
      · have HN : Hid (run 0 l = run 3 (l.drop (k + 1))) := run_go HR.out hlt' HC.out (nxt_nz0 d1 d2) (by omega)
        clear c45 c48 c46 c101 c69 c43
        go_wp2_with fail
        go_round
        case rel => exact ⟨k + 1, 3, by omega, by omega, by omega, by go_num, rfl, HN⟩
        case measure => simp [intOf]; omega
      · have HN : Hid (run 0 l = run 3 (l.drop (k + 1))) := run_go HR.out hlt' HC.out (nxt_nz1 d1 d2) (by omega)
        clear c45 c48 c46 c101 c69 c43
        go_wp2_with fail
        go_round
        case rel => exact ⟨k + 1, 3, by omega, by omega, by omega, by go_num, rfl, HN⟩
        case measure => simp [intOf]; omega
      · have HN : Hid (run 0 l = (false, false)) := run_no HR.out hlt' HC.out (nxt_nz2 d1 d2)
        clear c45 c48 c46 c101 c69 c43
        go_wp2_with fail
        go_ret2
        exact ⟨pair_bool (by rw [HN.out]) (by rw [HN.out]), rfl⟩
      · have HN : Hid (run 0 l = run 3 (l.drop (k + 1))) := run_go HR.out hlt' HC.out (nxt_nz3 d1 d2) (by omega)
        clear c45 c48 c46 c101 c69 c43
        go_wp2_with fail
        go_round
        case rel => exact ⟨k + 1, 3, by omega, by omega, by omega, by go_num, rfl, HN⟩
        case measure => simp [intOf]; omega
      · have HN : Hid (run 0 l = run 5 (l.drop (k + 1))) := run_go HR.out hlt' HC.out (nxt_nz4 d1 d2) (by omega)
        clear c45 c48 c46 c101 c69 c43
        go_wp2_with fail
        go_round
        case rel => exact ⟨k + 1, 5, by omega, by omega, by omega, by go_num, rfl, HN⟩
        case measure => simp [intOf]; omega
      · have HN : Hid (run 0 l = run 5 (l.drop (k + 1))) := run_go HR.out hlt' HC.out (nxt_nz5 d1 d2) (by omega)
        clear c45 c48 c46 c101 c69 c43
        go_wp2_with fail
        go_round
        case rel => exact ⟨k + 1, 5, by omega, by omega, by omega, by go_num, rfl, HN⟩
        case measure => simp [intOf]; omega
      · have HN : Hid (run 0 l = run 8 (l.drop (k + 1))) := run_go HR.out hlt' HC.out (nxt_nz6 d1 d2) (by omega)
        clear c45 c48 c46 c101 c69 c43
        go_wp2_with fail
        go_round
        case rel => exact ⟨k + 1, 8, by omega, by omega, by omega, by go_num, rfl, HN⟩
        case measure => simp [intOf]; omega
      · have HN : Hid (run 0 l = run 8 (l.drop (k + 1))) := run_go HR.out hlt' HC.out (nxt_nz7 d1 d2) (by omega)
        clear c45 c48 c46 c101 c69 c43
        go_wp2_with fail
        go_round
        case rel => exact ⟨k + 1, 8, by omega, by omega, by omega, by go_num, rfl, HN⟩
        case measure => simp [intOf]; omega
      · have HN : Hid (run 0 l = run 8 (l.drop (k + 1))) := run_go HR.out hlt' HC.out (nxt_nz8 d1 d2) (by omega)
        clear c45 c48 c46 c101 c69 c43
        go_wp2_with fail
        go_round
        case rel => exact ⟨k + 1, 8, by omega, by omega, by omega, by go_num, rfl, HN⟩
        case measure => simp [intOf]; omega
    · have hkl : l.drop k = [] := List.drop_of_length_le (by have := HZ.out; omega)
      have hfin := HR.out
      rw [hkl] at hfin
      have hsd : s = 0 ∨ s = 1 ∨ s = 2 ∨ s = 3 ∨ s = 4 ∨ s = 5 ∨ s = 6 ∨ s = 7 ∨ s = 8 := by omega
      clear hs1 hs2
      rcases hsd with rfl | rfl | rfl | rfl | rfl | rfl | rfl | rfl | rfl
      · have HN : Hid (run 0 l = (false, false)) := hfin
        clear hfin hkl
        go_wp2_with fail
        go_ret2
        exact ⟨pair_bool (by rw [HN.out]) (by rw [HN.out]), rfl⟩
      · have HN : Hid (run 0 l = (false, false)) := hfin
        clear hfin hkl
        go_wp2_with fail
        go_ret2
        exact ⟨pair_bool (by rw [HN.out]) (by rw [HN.out]), rfl⟩
      · have HN : Hid (run 0 l = (true, false)) := hfin
        clear hfin hkl
        go_wp2_with fail
        go_ret2
        exact ⟨pair_bool (by rw [HN.out]) (by rw [HN.out]), rfl⟩
      · have HN : Hid (run 0 l = (true, false)) := hfin
        clear hfin hkl
        go_wp2_with fail
        go_ret2
        exact ⟨pair_bool (by rw [HN.out]) (by rw [HN.out]), rfl⟩
      · have HN : Hid (run 0 l = (false, false)) := hfin
        clear hfin hkl
        go_wp2_with fail
        go_ret2
        exact ⟨pair_bool (by rw [HN.out]) (by rw [HN.out]), rfl⟩
      · have HN : Hid (run 0 l = (true, true)) := hfin
        clear hfin hkl
        go_wp2_with fail
        go_ret2
        exact ⟨pair_bool (by rw [HN.out]) (by rw [HN.out]), rfl⟩
      · have HN : Hid (run 0 l = (false, false)) := hfin
        clear hfin hkl
        go_wp2_with fail
        go_ret2
        exact ⟨pair_bool (by rw [HN.out]) (by rw [HN.out]), rfl⟩
      · have HN : Hid (run 0 l = (false, false)) := hfin
        clear hfin hkl
        go_wp2_with fail
        go_ret2
        exact ⟨pair_bool (by rw [HN.out]) (by rw [HN.out]), rfl⟩
      · have HN : Hid (run 0 l = (true, true)) := hfin
        clear hfin hkl
        go_wp2_with fail
        go_ret2
        exact ⟨pair_bool (by rw [HN.out]) (by rw [HN.out]), rfl⟩
end Go.Proofs.Qxb6003379a
