import Derived.Test.Qxb6003379aWalkB
namespace Go.Proofs.Qxb6003379a
open Go.RowKit

set_option maxHeartbeats 1000000 in
theorem guard_long (a : Option Addr) (n c : Nat) (x y : Int) (h : 1048576 < n) (W : World) :
    Calls Try.prog 6 #[.slice a n c, .int .i64 x, .int .i64 y] W fun e w' => e = .returned (.bool true) ∧ Below W.heap.size W w' := by
  go_enter Try.func6, Try.ntmps6
  go_wp2_with fail
  refine (bytes_no _ _ _ _ _ h _).mono ?_
  rintro e w1 ⟨rfl, rfl⟩
  go_wp2_with fail
  go_ret
  exact ⟨rfl, Below.refl _ _⟩
set_option maxHeartbeats 1000000 in
theorem guard_off (a : Option Addr) (n c : Nat) (x y : Int) (h : n ≤ 1048576) (hx : x < 0 ∨ (n : Int) < x) (W : World) :
    Calls Try.prog 6 #[.slice a n c, .int .i64 x, .int .i64 y] W fun e w' => e = .returned (.bool true) ∧ Below W.heap.size W w' := by
  by_cases c1 : x < 0
  · clear hx
    go_enter Try.func6, Try.ntmps6
    go_wp2_with fail
    refine (bytes_yes _ _ _ _ _ h _).mono ?_
    rintro e w1 ⟨rfl, rfl⟩
    go_wp2_with fail
    go_ret
    exact ⟨rfl, Below.refl _ _⟩
  · have c2 : (n : Int) < x := by omega
    clear hx
    go_enter Try.func6, Try.ntmps6
    go_wp2_with fail
    refine (bytes_yes _ _ _ _ _ h _).mono ?_
    rintro e w1 ⟨rfl, rfl⟩
    go_wp2_with fail
    go_ret
    exact ⟨rfl, Below.refl _ _⟩

/-- a place between k and r -/
theorem between (k r : Nat) (y : Int) (h : k ≤ r) : ∃ M : Nat, (k : Int) + y % ((r : Int) - (k : Int) + 1) = (M : Int) ∧ k ≤ M ∧ M ≤ r := by
  have h1 : 0 ≤ y % ((r : Int) - (k : Int) + 1) := Int.emod_nonneg _ (by omega)
  have h2 : y % ((r : Int) - (k : Int) + 1) < (r : Int) - (k : Int) + 1 := Int.emod_lt_of_pos _ (by omega)
  exact ⟨((k : Int) + y % ((r : Int) - (k : Int) + 1)).toNat, by omega, by omega, by omega⟩

theorem between_pos (k r : Nat) (y : Int) (h : k ≤ r) (hr : r ≤ 1048576) : ∃ M : Nat, wrap64 ((k : Int) + y % ((r : Int) - (k : Int) + 1)) = (M : Int) ∧ k ≤ M ∧ M ≤ r := by
  obtain ⟨M, hM, h1, h2⟩ := between k r y h
  refine ⟨M, ?_, h1, h2⟩
  rw [hM]
  exact IntWalk.wrap64_in _ ⟨by omega, by omega⟩
theorem between_neg (k r : Nat) (y : Int) (hy : y < 0) (h : k ≤ r) (hr : r ≤ 1048576) : ∃ M : Nat, wrap64 ((k : Int) + -(y + 1).tmod ((r : Int) - (k : Int) + 1)) = (M : Int) ∧ k ≤ M ∧ M ≤ r := by
  obtain ⟨M, hM, h1, h2⟩ := between k r (-(y + 1)) h
  have e : -(y + 1).tmod ((r : Int) - (k : Int) + 1) = (-(y + 1)) % ((r : Int) - (k : Int) + 1) := by
    rw [← Int.neg_tmod, Int.tmod_eq_emod_of_nonneg (by omega)]
  refine ⟨M, ?_, h1, h2⟩
  rw [e, hM]
  exact IntWalk.wrap64_in _ ⟨by omega, by omega⟩

set_option maxHeartbeats 1000000 in
theorem case_row (x : Addr) (n c k : Nat) (f : Nat → Int) (y : Int) (hn : n ≤ 1048576) (hk : k ≤ n) (W : World) (hy1 : -9223372036854775808 ≤ y) (hy2 : y ≤ 9223372036854775807) (hc : ∀ i, i < n → W.cell? (x.add i) = some (.int .u8 (f i))) :
    Calls Try.prog 6 #[.slice (some x) n c, .int .i64 k, .int .i64 y] W fun e w' => e = .returned (.bool true) ∧ Below W.heap.size W w' := by
  have HC : Hid (∀ i, i < n → W.cell? (x.add i) = some (.int .u8 (f i))) := hc
  clear hc
  go_enter Try.func6, Try.ntmps6
  go_wp2_with fail
  refine (bytes_yes _ _ _ _ _ hn _).mono ?_
  rintro e w0 ⟨rfl, rfl⟩
  go_wp2_with fail
  refine (clone_any x n c f hn _ HC.out).mono ?_
  rintro e w1 ⟨rfl, hb1, hs1, hr1⟩
  have HR1 : Hid (∀ i, i < n → w1.cell? ⟨w0.heap.size, i, none⟩ = some (.int .u8 (f i))) := hr1
  clear hr1
  generalize hB : w0.heap.size = B at *
  go_wp2_with fail
  refine (zz_any B n k f hk hn _ hs1 HR1.out).mono ?_
  rintro e w2 ⟨r, rfl, hst, hb2⟩
  have hlo := hst.lo
  have hhi := hst.hi
  have HST : Hid (Stop f k n r) := hst
  have HR2 : Hid (∀ i, i < n → w2.cell? ⟨B, i, none⟩ = some (.int .u8 (f i))) := fun i hi => (hb2.cell (p := ⟨B, i, none⟩) hs1).trans (HR1.out i hi)
  have d1 : decide (r < k) = false := by simp; omega
  have d2 : decide (n < r) = false := by simp; omega
  have d3 : decide ((r : Int) < (k : Int)) = false := by simp; omega
  have d4 : decide ((n : Int) < (r : Int)) = false := by simp; omega
  clear hst
  go_wp2_with fail
  go_loop [8] (fun i => ∃ j : Nat, k ≤ j ∧ j ≤ r ∧ i = .int .i64 j) (fun i => r - (intOf i).toNat)
  case atStart => exact ⟨k, Nat.le_refl _, hlo, rfl⟩
  case round =>
    obtain ⟨j, hj1, hj2, rfl⟩ := hrel
    by_cases hlt : j < r
    · have cj := HR2.out j (by omega)
      have sj := HST.out.all j hj1 hlt
      go_wp2_with fail
      refine (space_any (f j) _).mono ?_
      rintro e w3 ⟨rfl, rfl⟩
      rw [sj]
      go_wp2_with fail
      go_round
      case rel => exact ⟨j + 1, by omega, by omega, by go_num⟩
      case measure => simp [intOf]; omega
    · have hjr : j = r := by omega
      subst hjr
      by_cases hjn : j < n
      · have cj := HR2.out j hjn
        have sj := HST.out.no hjn
        have hb12 : Below B w0 w2 := hb1.trans (hb2.mono (Nat.le_of_lt hs1))
        have hs2 : B < w2.heap.size := Nat.lt_of_lt_of_le hs1 hb2.size
        by_cases hy : y < 0
        · obtain ⟨M, hM, hM1, hM2⟩ := between_neg k j y hy hlo (by omega)
          have HM : Hid _ := hM
          clear hM
          go_wp2_with fail
          refine (space_any (f j) _).mono ?_
          rintro e w3 ⟨rfl, e3⟩
          subst e3
          rw [sj]
          go_wp2_with fail
          rw [HM.out]
          refine (zz_any B n M f (by omega) hn _ hs2 HR2.out).mono ?_
          rintro e w5 ⟨r', rfl, hst', hb5⟩
          have hsame := HST.out.same hst' hM1 hM2
          subst hsame
          go_wp2_with fail
          go_ret
          refine ⟨rfl, ?_⟩
          rw [hB]
          exact hb12.trans (hb5.mono (Nat.le_of_lt hs2))
        · obtain ⟨M, hM, hM1, hM2⟩ := between_pos k j y hlo (by omega)
          have HM : Hid _ := hM
          clear hM
          go_wp2_with fail
          refine (space_any (f j) _).mono ?_
          rintro e w3 ⟨rfl, e3⟩
          subst e3
          rw [sj]
          go_wp2_with fail
          rw [HM.out]
          refine (zz_any B n M f (by omega) hn _ hs2 HR2.out).mono ?_
          rintro e w5 ⟨r', rfl, hst', hb5⟩
          have hsame := HST.out.same hst' hM1 hM2
          subst hsame
          go_wp2_with fail
          go_ret
          refine ⟨rfl, ?_⟩
          rw [hB]
          exact hb12.trans (hb5.mono (Nat.le_of_lt hs2))
      · have hjn2 : ¬ (j : Int) < (n : Int) := by omega
        have hb12 : Below B w0 w2 := hb1.trans (hb2.mono (Nat.le_of_lt hs1))
        have hs2 : B < w2.heap.size := Nat.lt_of_lt_of_le hs1 hb2.size
        by_cases hy : y < 0
        · obtain ⟨M, hM, hM1, hM2⟩ := between_neg k j y hy hlo (by omega)
          have HM : Hid _ := hM
          clear hM
          go_wp2_with fail
          rw [HM.out]
          refine (zz_any B n M f (by omega) hn _ hs2 HR2.out).mono ?_
          rintro e w5 ⟨r', rfl, hst', hb5⟩
          have hsame := HST.out.same hst' hM1 hM2
          subst hsame
          go_wp2_with fail
          go_ret
          refine ⟨rfl, ?_⟩
          rw [hB]
          exact hb12.trans (hb5.mono (Nat.le_of_lt hs2))
        · obtain ⟨M, hM, hM1, hM2⟩ := between_pos k j y hlo (by omega)
          have HM : Hid _ := hM
          clear hM
          go_wp2_with fail
          rw [HM.out]
          refine (zz_any B n M f (by omega) hn _ hs2 HR2.out).mono ?_
          rintro e w5 ⟨r', rfl, hst', hb5⟩
          have hsame := HST.out.same hst' hM1 hM2
          subst hsame
          go_wp2_with fail
          go_ret
          refine ⟨rfl, ?_⟩
          rw [hB]
          exact hb12.trans (hb5.mono (Nat.le_of_lt hs2))
end Go.Proofs.Qxb6003379a
