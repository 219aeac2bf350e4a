import Derived.Test.Qxb6002910aWalkD
namespace Go.Proofs.Qxb6002910a
open Go.RowKit

theorem sl_done {w poly f e a b : Nat} (h : e = 0) : Poly.shiftLoop w poly f e a b = a := by
  subst h
  cases f <;> simp [Poly.shiftLoop]
theorem sl_yes {w poly f e a b : Nat} (h0 : e ≠ 0) (h : e.testBit 0 = true) : Poly.shiftLoop w poly (f + 1) e a b = Poly.shiftLoop w poly f (e / 2) (Poly.times w poly a b) (Poly.times w poly b b) := by
  have h1 : e % 2 = 1 := by simpa [Nat.testBit_zero] using h
  simp [Poly.shiftLoop, h0, h1]
theorem sl_no {w poly f e a b : Nat} (h0 : e ≠ 0) (h : e.testBit 0 = false) : Poly.shiftLoop w poly (f + 1) e a b = Poly.shiftLoop w poly f (e / 2) a (Poly.times w poly b b) := by
  have h1 : ¬ e % 2 = 1 := by simpa [Nat.testBit_zero] using h
  simp [Poly.shiftLoop, h0, h1]
theorem int_half (e : Nat) : (e : Int) / 2 = ((e / 2 : Nat) : Int) := by omega

set_option maxHeartbeats 1000000 in
theorem shift_any (w poly v n : Nat) (hw : 2 ≤ w) (hw' : w ≤ 64) (hp : poly < 2 ^ w) (hv : v < 2 ^ w) (hn : n ≤ 1152921504606846976) (W : World) :
    Calls Try.prog 18 #[.agg #[.int .u64 w, .int .u64 poly], .int .u64 v, .int .i64 n] W fun e w' => e = .returned (.int .u64 (Poly.shift w poly v n : Nat)) ∧ Q W w' := by
  have hp' := lt_of hw' hp
  have hv' := lt_of hw' hv
  go_enter Try.func18, Try.ntmps18
  go_wp2_with fail
  go_loopw [8, 9, 10] (fun fa po ee wr => ∃ f e a b : Nat, e < 18446744073709551616 ∧ e < 2 ^ f ∧ a < 2 ^ w ∧ b < 2 ^ w ∧ Hid (Poly.shiftLoop w poly f e a b = Poly.shiftLoop w poly 64 (8 * n) (2 ^ (w - 1)) (2 ^ (w - 1) / 2)) ∧ ee = .int .u64 e ∧ fa = .int .u64 a ∧ po = .int .u64 b ∧ Q (W.alloc (.cells #[.int .u64 w, .int .u64 poly] 34)) wr) (fun _ _ e _ => (intOf e).toNat)
  case atStart =>
    have h2 : 2 ^ (w - 1) < 2 ^ w := Nat.pow_lt_pow_right (by omega) (by omega)
    exact ⟨64, 8 * n, 2 ^ (w - 1), 2 ^ (w - 1) / 2, by omega, by omega, h2, by omega, rfl, int_eq (by omega), int_eq (wrap_pow (by omega)), int_eq (by rw [wrap_pow (by omega)]; exact int_half _), Q.refl _⟩
  case round =>
    obtain ⟨f, e, a, b, he, hef, ha, hb, hsl, rfl, rfl, rfl, hq⟩ := hrel
    obtain ⟨hc0, hc1⟩ := box_cells hq
    have ha' := lt_of hw' ha
    have hb' := lt_of hw' hb
    by_cases h0 : e = 0
    · have HS : Hid (Poly.shift w poly v n = Poly.times w poly v a) := by
        have := hsl.out
        rw [sl_done h0] at this
        show Poly.shift w poly v n = _
        unfold Poly.shift
        rw [← this]
      subst h0
      go_wp2_with fail
      refine (times_any w poly v a (by omega) hw' hp hv' ha _).mono ?_
      rintro e w1 ⟨rfl, hq1⟩
      go_wp2_with fail
      go_ret
      exact ⟨ret_eq (by rw [HS.out]), (((Q.refl W).alloc _ _).trans hq).trans hq1⟩
    · have hpos : 0 < e := by omega
      obtain ⟨f', rfl⟩ : ∃ f', f = f' + 1 := by
        cases f with
        | zero => exact absurd hef (by simp; omega)
        | succ f' => exact ⟨f', rfl⟩
      have he2 : e / 2 < 2 ^ f' := by rw [Nat.pow_succ] at hef; omega
      go_wp2_with fail
      · have hbt : (bits BinOp.and IntKind.u64 (e : Int) 1 != 0) = true := by assumption
        rw [bit_test0 he] at hbt
        have hsl2 := hsl.out
        rw [sl_yes h0 hbt] at hsl2
        have HS : Hid (_ = _) := hsl2
        clear hsl2 hbt
        refine (times_any w poly a b (by omega) hw' hp ha' hb _).mono ?_
        rintro e1 w1 ⟨rfl, hq1⟩
        obtain ⟨hd0, hd1⟩ := box_cells (hq.trans hq1)
        go_wp2_with fail
        refine (times_any w poly b b (by omega) hw' hp hb' hb _).mono ?_
        rintro e1 w2 ⟨rfl, hq2⟩
        go_wp2_with fail
        go_roundw
        case rel => exact ⟨f', e / 2, _, _, by omega, he2, Poly.times_lt hp hb, Poly.times_lt hp hb, HS, int_eq (int_half e), rfl, rfl, (hq.trans hq1).trans hq2⟩
        case measure => simp [intOf]; omega
      · have hbt : (bits BinOp.and IntKind.u64 (e : Int) 1 != 0) = false := by assumption
        rw [bit_test0 he] at hbt
        have hsl2 := hsl.out
        rw [sl_no h0 hbt] at hsl2
        have HS : Hid (_ = _) := hsl2
        clear hsl2 hbt
        refine (times_any w poly b b (by omega) hw' hp hb' hb _).mono ?_
        rintro e1 w2 ⟨rfl, hq2⟩
        go_wp2_with fail
        go_roundw
        case rel => exact ⟨f', e / 2, _, _, by omega, he2, ha, Poly.times_lt hp hb, HS, int_eq (int_half e), rfl, rfl, hq.trans hq2⟩
        case measure => simp [intOf]; omega
end Go.Proofs.Qxb6002910a
