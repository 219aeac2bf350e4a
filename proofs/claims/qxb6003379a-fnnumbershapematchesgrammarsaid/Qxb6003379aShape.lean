import Derived.Test.Qxb6003379aDigits
import Derived.Deep.QuietTactic
import Derived.BigQuiet
import Derived.Deep.Cut
import Derived.Deep.CutRange
namespace Go.Proofs.Qxb6003379a
open Go.RowKit

/-- does the text begin so? -/
def hd : List UInt8 → UInt8 → Bool
  | [], _ => false
  | c :: _, x => c == x
theorem hd_at {l : List UInt8} {k : Nat} {c : UInt8} (hk : k < l.length) (hc : l[k] = c) (x : UInt8) : hd (l.drop k) x = (c == x) := by
  rw [List.drop_eq_getElem_cons hk, hc]; rfl
theorem hd_end {l : List UInt8} {k : Nat} (hk : ¬ k < l.length) (x : UInt8) : hd (l.drop k) x = false := by
  rw [List.drop_of_length_le (by omega)]; rfl
theorem byte_beq (c : UInt8) (n : Nat) (hn : n < 256) : (c == UInt8.ofNat n) = ((c.toNat : Int) == n) := by
  have h := byte_ne (c := c) hn
  by_cases e : (c.toNat : Int) = n
  · rw [beq_iff_eq.2 e, beq_iff_eq.2 (h.2 e)]
  · rw [beq_eq_false_iff_ne.2 e, beq_eq_false_iff_ne.2 (fun x => e (h.1 x))]

theorem bool_eq {a b : Bool} (h : a = b) : Value.bool a = Value.bool b := by rw [h]

/-- the world of numberShape: the text's box, then i's -/
theorem q_world (W : World) (s : ByteArray) (k : Nat) : Q W ((W.alloc (.cells #[.string s] 9)).alloc (.cells #[.int .i64 k] 3)) := ((Q.refl W).alloc _ _).alloc _ _

/-! ### the stages, seen from a place k in the text -/
theorem hd_cons {r : List UInt8} {x : UInt8} (h : hd r x = true) : ∃ t, r = x :: t := by
  cases r with
  | nil => cases h
  | cons c t => exact ⟨t, by rw [show c = x from by simpa [hd] using h]⟩
theorem hd_ne {c x : UInt8} {t : List UInt8} (h : hd (c :: t) x = false) : ¬ c = x := by simpa [hd] using h
theorem drop_tail {l : List UInt8} {k : Nat} {x : UInt8} {t : List UInt8} (h : l.drop k = x :: t) : t = l.drop (k + 1) ∧ k + 1 ≤ l.length := by
  have h1 : (l.drop k).length = t.length + 1 := by rw [h]; rfl
  simp at h1
  refine ⟨?_, by omega⟩
  have : (l.drop k).drop 1 = t := by rw [h]; rfl
  rw [← this, List.drop_drop]

theorem sh_yes {l : List UInt8} (h : hd l 45 = true) : shape l = stI (l.drop 1) ∧ 1 ≤ l.length := by
  obtain ⟨t, rfl⟩ := hd_cons h
  exact ⟨by simp [shape], by simp⟩
theorem sh_no {l : List UInt8} (h : hd l 45 = false) : shape l = stI (l.drop 0) := by
  cases l with
  | nil => rfl
  | cons c t => simp [shape, hd_ne h]
theorem i_zero {l : List UInt8} {k : Nat} (h : hd (l.drop k) 48 = true) : stI (l.drop k) = stF (l.drop (k + 1)) ∧ k + 1 ≤ l.length := by
  obtain ⟨t, e⟩ := hd_cons h
  obtain ⟨e2, e3⟩ := drop_tail e
  rw [e, ← e2]
  exact ⟨by simp [stI], e3⟩
theorem i_fail {l : List UInt8} {k : Nat} (h : hd (l.drop k) 48 = false) (hd0 : digs (l.drop k) = 0) : stI (l.drop k) = none := by
  generalize l.drop k = r at *
  cases r with
  | nil => rfl
  | cons c t => simp [stI, hd_ne h, hd0]
theorem i_digs {l : List UInt8} {k : Nat} (h : hd (l.drop k) 48 = false) (hd0 : 0 < digs (l.drop k)) : stI (l.drop k) = stF (l.drop (k + digs (l.drop k))) := by
  have e : l.drop (k + digs (l.drop k)) = (l.drop k).drop (digs (l.drop k)) := by rw [List.drop_drop]
  rw [e]
  generalize l.drop k = r at *
  cases r with
  | nil => simp [digs] at hd0
  | cons c t =>
    have : ¬ digs (c :: t) = 0 := by omega
    simp only [stI, hd_ne h, if_false, this]
theorem k_digs {l : List UInt8} {k : Nat} (hk : k ≤ l.length) : k + digs (l.drop k) ≤ l.length := by
  have := digs_le (l.drop k)
  simp at this
  omega
theorem f_yes {l : List UInt8} {k : Nat} (h : hd (l.drop k) 46 = true) : stF (l.drop k) = (if digs (l.drop (k + 1)) = 0 then none else stE 6 (l.drop (k + 1 + digs (l.drop (k + 1))))) ∧ k + 1 ≤ l.length := by
  obtain ⟨t, e⟩ := hd_cons h
  obtain ⟨e2, e3⟩ := drop_tail e
  have e4 : l.drop (k + 1 + digs (l.drop (k + 1))) = t.drop (digs t) := by rw [← List.drop_drop, ← e2]
  rw [e4, e, ← e2]
  exact ⟨by simp [stF], e3⟩
theorem f_no {l : List UInt8} {k : Nat} (h : hd (l.drop k) 46 = false) : stF (l.drop k) = stE 5 (l.drop k) := by
  generalize l.drop k = r at *
  cases r with
  | nil => rfl
  | cons c t => simp [stF, hd_ne h]
theorem e_yes {l : List UInt8} {k : Nat} {kd : Int} (h : (hd (l.drop k) 101 || hd (l.drop k) 69) = true) : stE kd (l.drop k) = stX (sgn (l.drop (k + 1))) ∧ k + 1 ≤ l.length := by
  have h' : hd (l.drop k) 101 = true ∨ hd (l.drop k) 69 = true := by simpa using h
  rcases h' with h | h
  · obtain ⟨t, e⟩ := hd_cons h
    obtain ⟨e2, e3⟩ := drop_tail e
    rw [e, ← e2]
    exact ⟨by simp [stE], e3⟩
  · obtain ⟨t, e⟩ := hd_cons h
    obtain ⟨e2, e3⟩ := drop_tail e
    rw [e, ← e2]
    exact ⟨by simp [stE], e3⟩
theorem e_no {l : List UInt8} {k : Nat} {kd : Int} (h : (hd (l.drop k) 101 || hd (l.drop k) 69) = false) : stE kd (l.drop k) = fin kd (l.drop k) := by
  obtain ⟨h1, h2⟩ := (Bool.or_eq_false_iff).1 h
  generalize l.drop k = r at *
  cases r with
  | nil => rfl
  | cons c t => simp [stE, hd_ne h1, hd_ne h2]
theorem s_yes {l : List UInt8} {k : Nat} (h : (hd (l.drop k) 43 || hd (l.drop k) 45) = true) : sgn (l.drop k) = l.drop (k + 1) ∧ k + 1 ≤ l.length := by
  have h' : hd (l.drop k) 43 = true ∨ hd (l.drop k) 45 = true := by simpa using h
  rcases h' with h | h
  · obtain ⟨t, e⟩ := hd_cons h
    obtain ⟨e2, e3⟩ := drop_tail e
    rw [e, ← e2]
    exact ⟨by simp [sgn], e3⟩
  · obtain ⟨t, e⟩ := hd_cons h
    obtain ⟨e2, e3⟩ := drop_tail e
    rw [e, ← e2]
    exact ⟨by simp [sgn], e3⟩
theorem s_no {l : List UInt8} {k : Nat} (h : (hd (l.drop k) 43 || hd (l.drop k) 45) = false) : sgn (l.drop k) = l.drop k := by
  obtain ⟨h1, h2⟩ := (Bool.or_eq_false_iff).1 h
  generalize l.drop k = r at *
  cases r with
  | nil => rfl
  | cons c t => simp [sgn, hd_ne h1, hd_ne h2]
theorem x_fail {l : List UInt8} {k : Nat} (h : digs (l.drop k) = 0) : stX (l.drop k) = none := by simp [stX, h]
theorem x_digs {l : List UInt8} {k : Nat} (h : 0 < digs (l.drop k)) : stX (l.drop k) = fin 6 (l.drop (k + digs (l.drop k))) := by
  have : ¬ digs (l.drop k) = 0 := by omega
  simp only [stX, this, if_false, List.drop_drop]
theorem fin_some {l : List UInt8} {k : Nat} {kd : Int} (hk : k ≤ l.length) : (fin kd (l.drop k)).isSome = decide (k = l.length) := by
  by_cases e : k = l.length
  · subst e; simp [fin]
  · have : k < l.length := by omega
    rw [List.drop_eq_getElem_cons this]
    simp [fin, e]
theorem fin_kind {kd K : Int} {r : List UInt8} (h : fin kd r = some K) : kd = K := by
  cases r with
  | nil => simpa [fin] using h
  | cons c t => cases h
theorem failed {l : List UInt8} (h : shape l = none) : Ending.returned (.tuple #[.int .u8 0, .bool false]) = .returned (.tuple #[.int .u8 0, .bool (shape l).isSome]) ∧ ∀ K, shape l = some K → (0 : Int) = K := by
  rw [h]
  exact ⟨rfl, fun K hK => by cases hK⟩

theorem last_pair {l : List UInt8} {k : Nat} {kd : Int} (hz : (str l).size = l.length) (hk : k ≤ l.length) (h : shape l = fin kd (l.drop k)) :
    Ending.returned (.tuple #[.int .u8 kd, .bool ((k : Int) == ((str l).size : Int))]) = .returned (.tuple #[.int .u8 kd, .bool (shape l).isSome]) := by
  have e : ((k : Int) == ((str l).size : Int)) = (shape l).isSome := by
    rw [h, fin_some hk, hz]
    by_cases c : k = l.length
    · subst c; simp
    · have : ¬ (k : Int) = (l.length : Int) := by omega
      simp [c, this]
  rw [e]

set_option maxRecDepth 100000 in
set_option maxHeartbeats 4000000 in
theorem shape_any (l : List UInt8) (hl : l.length ≤ 1048576) (W : World) :
    Calls Try.prog 16 #[.string (str l)] W fun e w' => ∃ kd : Int, e = .returned (.tuple #[.int .u8 kd, .bool (shape l).isSome]) ∧ (∀ K, shape l = some K → kd = K) ∧ Q W w' := by
  have hz := str_size l
  have hb : (str l).size ≤ 1048576 := by omega
  have HZ : Hid ((str l).size = l.length) := hz
  clear hz
  go_enter Try.func16, Try.ntmps16
  go_upto_region 3 with fail
  go_cut [17] from 7 (fun t wc => t = .bool (hd l 45) ∧ wc = (W.alloc (.cells #[.string (str l)] 9)).alloc (.cells #[.int .i64 0] 3))
  case first =>
    by_cases hk : 0 < (str l).size
    · have hk' : 0 < l.length := by rw [← HZ.out]; exact hk
      have hg := str_get l 0 hk
      generalize hc : l[0]'hk' = c at hg
      have HB45 : Hid (hd l 45 = ((c.toNat : Int) == 45)) := by
        have := hd_at hk' hc 45
        rw [List.drop_zero] at this
        exact this.trans (byte_beq c 45 (by omega))
      clear hc
      go_wp2_with fail
      go_meet
      exact ⟨bool_eq HB45.out.symm, rfl⟩
    · have HE : ∀ x, hd l x = false := fun x => by
        have := hd_end (l := l) (k := 0) (by have := HZ.out; omega) x
        rw [List.drop_zero] at this
        exact this
      have HB : Hid ((hd l 45) = false) := by
        show _ = _
        simp [HE]
      clear HE
      go_wp2_with fail
      go_meet
      exact ⟨bool_eq HB.out.symm, rfl⟩
  case rest =>
    obtain ⟨rfl, rfl⟩ := hcut
    go_upto_if 17 with fail
    go_cut [] from 7 (fun wc => ∃ k : Nat, k ≤ l.length ∧ Hid (shape l = stI (l.drop k)) ∧ wc = (W.alloc (.cells #[.string (str l)] 9)).alloc (.cells #[.int .i64 (k : Nat)] 3))
    case first =>
      cases h45 : hd l 45
      · have HN : Hid (shape l = stI (l.drop 0)) := sh_no h45
        go_wp2_with fail
        go_meet
        exact ⟨0, by omega, HN, rfl⟩
      · have HN := sh_yes h45
        have HN1 : Hid (shape l = stI (l.drop 1)) := HN.1
        have HN2 := HN.2
        clear HN
        go_wp2_with fail
        go_meet
        exact ⟨1, HN2, HN1, rfl⟩
    case rest =>
      obtain ⟨k, hkl, HS, rfl⟩ := hcut
      go_upto_region 5 with fail
      go_cut [29] from 7 (fun t wc => t = .bool (hd (l.drop k) 48) ∧ wc = (W.alloc (.cells #[.string (str l)] 9)).alloc (.cells #[.int .i64 (k : Nat)] 3))
      case first =>
        by_cases hk : k < (str l).size
        · have hk' : k < l.length := by rw [← HZ.out]; exact hk
          have hg := str_get l k hk
          generalize hc : l[k]'hk' = c at hg
          have HB48 : Hid (hd (l.drop k) 48 = ((c.toNat : Int) == 48)) := by
            have := hd_at hk' hc 48
            exact this.trans (byte_beq c 48 (by omega))
          clear hc
          go_wp2_with fail
          go_meet
          exact ⟨bool_eq HB48.out.symm, rfl⟩
        · have HE : ∀ x, hd (l.drop k) x = false := fun x => by
            have := hd_end (l := l) (k := k) (by have := HZ.out; omega) x
            exact this
          have HB : Hid ((hd (l.drop k) 48) = false) := by
            show _ = _
            simp [HE]
          clear HE
          go_wp2_with fail
          go_meet
          exact ⟨bool_eq HB.out.symm, rfl⟩
      case rest =>
        obtain ⟨rfl, rfl⟩ := hcut
        go_upto_if 29 with fail
        go_cut [] from 7 (fun wc => ∃ k : Nat, k ≤ l.length ∧ Hid (shape l = stF (l.drop k)) ∧ wc = (W.alloc (.cells #[.string (str l)] 9)).alloc (.cells #[.int .i64 (k : Nat)] 3))
        case first =>
          cases h48 : hd (l.drop k) 48
          · have hdig := k_digs hkl
            cases hdd : decide (0 < digs (l.drop k))
            · have HN : Hid (shape l = none) := HS.out.trans (i_fail h48 (by simpa using hdd))
              go_wp2_with fail
              refine (digits_any l k hl hkl W).mono ?_
              rintro e w1 ⟨rfl, rfl⟩
              rw [hdd]
              go_wp2_with fail
              go_ret2
              exact ⟨0, (failed HN.out).1, (failed HN.out).2, q_world W _ _⟩
            · have HN : Hid (shape l = stF (l.drop (k + digs (l.drop k)))) := HS.out.trans (i_digs h48 (by simpa using hdd))
              go_wp2_with fail
              refine (digits_any l k hl hkl W).mono ?_
              rintro e w1 ⟨rfl, rfl⟩
              rw [hdd]
              go_wp2_with fail
              go_meet
              exact ⟨_, hdig, HN, rfl⟩
          · have HI := i_zero h48
            have HN : Hid (shape l = stF (l.drop (k + 1))) := HS.out.trans HI.1
            have HN2 := HI.2
            clear HI
            go_wp2_with fail
            go_meet
            exact ⟨k + 1, HN2, HN, by rw [show ((k : Int) + 1) = ((k + 1 : Nat) : Int) from by omega]⟩
        case rest =>
          obtain ⟨k, hkl, HS, rfl⟩ := hcut
          go_upto_region 10 with fail
          go_cut [44] from 7 (fun t wc => t = .bool (hd (l.drop k) 46) ∧ wc = (W.alloc (.cells #[.string (str l)] 9)).alloc (.cells #[.int .i64 (k : Nat)] 3))
          case first =>
            by_cases hk : k < (str l).size
            · have hk' : k < l.length := by rw [← HZ.out]; exact hk
              have hg := str_get l k hk
              generalize hc : l[k]'hk' = c at hg
              have HB46 : Hid (hd (l.drop k) 46 = ((c.toNat : Int) == 46)) := by
                have := hd_at hk' hc 46
                exact this.trans (byte_beq c 46 (by omega))
              clear hc
              go_wp2_with fail
              go_meet
              exact ⟨bool_eq HB46.out.symm, rfl⟩
            · have HE : ∀ x, hd (l.drop k) x = false := fun x => by
                have := hd_end (l := l) (k := k) (by have := HZ.out; omega) x
                exact this
              have HB : Hid ((hd (l.drop k) 46) = false) := by
                show _ = _
                simp [HE]
              clear HE
              go_wp2_with fail
              go_meet
              exact ⟨bool_eq HB.out.symm, rfl⟩
          case rest =>
            obtain ⟨rfl, rfl⟩ := hcut
            go_upto_if 44 with fail
            go_cut [6] from 7 (fun t wc => ∃ (k : Nat) (kd : Int), k ≤ l.length ∧ Hid (shape l = stE kd (l.drop k)) ∧ t = .int .u8 kd ∧ wc = (W.alloc (.cells #[.string (str l)] 9)).alloc (.cells #[.int .i64 (k : Nat)] 3))
            case first =>
              cases h46 : hd (l.drop k) 46
              · have HN : Hid (shape l = stE 5 (l.drop k)) := HS.out.trans (f_no h46)
                go_wp2_with fail
                go_meet
                exact ⟨k, 5, hkl, HN, rfl, rfl⟩
              · have HF := f_yes h46
                have HN2 := HF.2
                have hdig := k_digs HN2
                have HF1 := HS.out.trans HF.1
                clear HF
                cases hdd : decide (0 < digs (l.drop (k + 1)))
                · have HN : Hid (shape l = none) := by
                    show _ = _
                    rw [HF1, if_pos (by simpa using hdd)]
                  clear HF1
                  go_wp2_with fail
                  rw [show ((k : Int) + 1) = ((k + 1 : Nat) : Int) from by omega]
                  refine (digits_any l (k + 1) hl HN2 W).mono ?_
                  rintro e w1 ⟨rfl, rfl⟩
                  rw [hdd]
                  go_wp2_with fail
                  go_ret2
                  exact ⟨0, (failed HN.out).1, (failed HN.out).2, q_world W _ _⟩
                · have HN : Hid (shape l = stE 6 (l.drop (k + 1 + digs (l.drop (k + 1))))) := by
                    show _ = _
                    rw [HF1, if_neg (by have : 0 < digs (l.drop (k + 1)) := by simpa using hdd
                                        omega)]
                  clear HF1
                  go_wp2_with fail
                  rw [show ((k : Int) + 1) = ((k + 1 : Nat) : Int) from by omega]
                  refine (digits_any l (k + 1) hl HN2 W).mono ?_
                  rintro e w1 ⟨rfl, rfl⟩
                  rw [hdd]
                  go_wp2_with fail
                  go_meet
                  exact ⟨_, 6, hdig, HN, rfl, rfl⟩
            case rest =>
              obtain ⟨k, kd, hkl, HS, rfl, rfl⟩ := hcut
              go_upto_region 15 with fail
              go_cut [65] from 7 (fun t wc => t = .bool (hd (l.drop k) 101 || hd (l.drop k) 69) ∧ wc = (W.alloc (.cells #[.string (str l)] 9)).alloc (.cells #[.int .i64 (k : Nat)] 3))
              case first =>
                by_cases hk : k < (str l).size
                · have hk' : k < l.length := by rw [← HZ.out]; exact hk
                  have hg := str_get l k hk
                  generalize hc : l[k]'hk' = c at hg
                  have HB101 : Hid (hd (l.drop k) 101 = ((c.toNat : Int) == 101)) := by
                    have := hd_at hk' hc 101
                    exact this.trans (byte_beq c 101 (by omega))
                  have HB69 : Hid (hd (l.drop k) 69 = ((c.toNat : Int) == 69)) := by
                    have := hd_at hk' hc 69
                    exact this.trans (byte_beq c 69 (by omega))
                  clear hc
                  cases c1 : ((c.toNat : Int) == 101)
                  · go_wp2_with fail
                    go_meet
                    exact ⟨bool_eq (by rw [HB101.out, HB69.out, c1]; rfl), rfl⟩
                  · go_wp2_with fail
                    go_meet
                    exact ⟨bool_eq (by rw [HB101.out, HB69.out, c1]; rfl), rfl⟩
                · have HE : ∀ x, hd (l.drop k) x = false := fun x => by
                    have := hd_end (l := l) (k := k) (by have := HZ.out; omega) x
                    exact this
                  have HB : Hid ((hd (l.drop k) 101 || hd (l.drop k) 69) = false) := by
                    show _ = _
                    simp [HE]
                  clear HE
                  go_wp2_with fail
                  go_meet
                  exact ⟨bool_eq HB.out.symm, rfl⟩
              case rest =>
                obtain ⟨rfl, rfl⟩ := hcut
                go_upto_if 65 with fail
                go_cut [6] from 7 (fun t wc => ∃ (k : Nat) (kd : Int), k ≤ l.length ∧ Hid (shape l = fin kd (l.drop k)) ∧ t = .int .u8 kd ∧ wc = (W.alloc (.cells #[.string (str l)] 9)).alloc (.cells #[.int .i64 (k : Nat)] 3))
                case first =>
                  cases hee : (hd (l.drop k) 101 || hd (l.drop k) 69)
                  · have HN : Hid (shape l = fin kd (l.drop k)) := HS.out.trans (e_no hee)
                    go_wp2_with fail
                    go_meet
                    exact ⟨k, kd, hkl, HN, rfl, rfl⟩
                  · have HF := e_yes (kd := kd) hee
                    have HN2 := HF.2
                    have HF1 : Hid (shape l = stX (sgn (l.drop (k + 1)))) := HS.out.trans HF.1
                    clear HF
                    go_upto_region 17 with fail
                    rw [show ((k : Int) + 1) = ((k + 1 : Nat) : Int) from by omega]
                    generalize hk1 : k + 1 = k1 at *
                    clear hk1
                    go_cut [83] from 7 (fun t wc => t = .bool (hd (l.drop k1) 43 || hd (l.drop k1) 45) ∧ wc = (W.alloc (.cells #[.string (str l)] 9)).alloc (.cells #[.int .i64 (k1 : Nat)] 3))
                    case first =>
                      by_cases hk : k1 < (str l).size
                      · have hk' : k1 < l.length := by rw [← HZ.out]; exact hk
                        have hg := str_get l k1 hk
                        generalize hc : l[k1]'hk' = c at hg
                        have HB43 : Hid (hd (l.drop k1) 43 = ((c.toNat : Int) == 43)) := by
                          have := hd_at hk' hc 43
                          exact this.trans (byte_beq c 43 (by omega))
                        have HB45 : Hid (hd (l.drop k1) 45 = ((c.toNat : Int) == 45)) := by
                          have := hd_at hk' hc 45
                          exact this.trans (byte_beq c 45 (by omega))
                        clear hc
                        cases c1 : ((c.toNat : Int) == 43)
                        · go_wp2_with fail
                          go_meet
                          exact ⟨bool_eq (by rw [HB43.out, HB45.out, c1]; rfl), rfl⟩
                        · go_wp2_with fail
                          go_meet
                          exact ⟨bool_eq (by rw [HB43.out, HB45.out, c1]; rfl), rfl⟩
                      · have HE : ∀ x, hd (l.drop k1) x = false := fun x => by
                          have := hd_end (l := l) (k := k1) (by have := HZ.out; omega) x
                          exact this
                        have HB : Hid ((hd (l.drop k1) 43 || hd (l.drop k1) 45) = false) := by
                          show _ = _
                          simp [HE]
                        clear HE
                        go_wp2_with fail
                        go_meet
                        exact ⟨bool_eq HB.out.symm, rfl⟩
                    case rest =>
                      obtain ⟨rfl, rfl⟩ := hcut
                      go_upto_if 83 with fail
                      go_cut [] from 7 (fun wc => ∃ k : Nat, k ≤ l.length ∧ Hid (shape l = stX (l.drop k)) ∧ wc = (W.alloc (.cells #[.string (str l)] 9)).alloc (.cells #[.int .i64 (k : Nat)] 3))
                      case first =>
                        cases hss : (hd (l.drop k1) 43 || hd (l.drop k1) 45)
                        · have HN : Hid (shape l = stX (l.drop k1)) := HF1.out.trans (by rw [s_no hss])
                          go_wp2_with fail
                          go_meet
                          exact ⟨k1, HN2, HN, rfl⟩
                        · have HY := s_yes hss
                          have HY2 := HY.2
                          have HN : Hid (shape l = stX (l.drop (k1 + 1))) := HF1.out.trans (by rw [HY.1])
                          clear HY
                          go_wp2_with fail
                          go_meet
                          exact ⟨k1 + 1, HY2, HN, by rw [show ((k1 : Int) + 1) = ((k1 + 1 : Nat) : Int) from by omega]⟩
                      case rest =>
                        obtain ⟨k, hkl, HS, rfl⟩ := hcut
                        have hdig := k_digs hkl
                        cases hdd : decide (0 < digs (l.drop k))
                        · have HN : Hid (shape l = none) := HS.out.trans (x_fail (by simpa using hdd))
                          go_wp2_with fail
                          refine (digits_any l k hl hkl W).mono ?_
                          rintro e w1 ⟨rfl, rfl⟩
                          rw [hdd]
                          go_wp2_with fail
                          go_ret2
                          exact ⟨0, (failed HN.out).1, (failed HN.out).2, q_world W _ _⟩
                        · have HN : Hid (shape l = fin 6 (l.drop (k + digs (l.drop k)))) := HS.out.trans (x_digs (by simpa using hdd))
                          go_wp2_with fail
                          refine (digits_any l k hl hkl W).mono ?_
                          rintro e w1 ⟨rfl, rfl⟩
                          rw [hdd]
                          go_wp2_with fail
                          go_meet
                          exact ⟨_, 6, hdig, HN, rfl, rfl⟩
                case rest =>
                  obtain ⟨k, kd, hkl, HS, rfl, rfl⟩ := hcut
                  go_wp2_with fail
                  go_quiet (fail)
                  go_wp2_with fail
                  go_ret2
                  exact ⟨kd, last_pair HZ.out hkl HS.out, fun K hK => fin_kind (HS.out.symm.trans hK), (q_world W _ _).drewN _⟩
end Go.Proofs.Qxb6003379a
