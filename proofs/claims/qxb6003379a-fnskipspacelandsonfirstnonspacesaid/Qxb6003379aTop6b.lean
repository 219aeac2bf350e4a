import Derived.Test.Qxb6003379aTop6
namespace Go.Proofs.Qxb6003379a
open Go.RowKit

set_option maxHeartbeats 1000000 in
theorem case_nil (y : Int) (W : World) (hy1 : -9223372036854775808 ≤ y) (hy2 : y ≤ 9223372036854775807) :
    Calls Try.prog 6 #[.slice none 0 0, .int .i64 0, .int .i64 y] W fun e w' => e = .returned (.bool true) ∧ Below W.heap.size W w' := by
  go_enter Try.func6, Try.ntmps6
  go_wp2_with fail
  refine (bytes_yes none 0 0 0 y (by omega) _).mono ?_
  rintro e w0 ⟨rfl, rfl⟩
  go_wp2_with fail
  refine (clone_nil _).mono ?_
  rintro e w1 ⟨rfl, e1⟩
  subst e1
  go_wp2_with fail
  refine (zz_nil _).mono ?_
  rintro e w2 ⟨rfl, hb2⟩
  go_wp2_with fail
  go_loop [8] (fun i => i = .int .i64 0) (fun i => 0)
  case atStart => rfl
  case round =>
    subst hrel
    by_cases hy : y < 0
    · go_wp2_with fail
      refine (zz_nil _).mono ?_
      rintro e w3 ⟨rfl, hb3⟩
      go_wp2_with fail
      go_ret
      exact ⟨rfl, hb2.trans (hb3.mono hb2.size)⟩
    · go_wp2_with fail
      refine (zz_nil _).mono ?_
      rintro e w3 ⟨rfl, hb3⟩
      go_wp2_with fail
      go_ret
      exact ⟨rfl, hb2.trans (hb3.mono hb2.size)⟩

theorem top6 (a : Option Addr) (n c : Nat) (z : List Int) (x y : Int) (W : World) (hy1 : -9223372036854775808 ≤ y) (hy2 : y ≤ 9223372036854775807)
    (h : (a = none ∧ n = 0 ∧ c = 0) ∨ ∃ p, a = some p ∧ ∀ i, i < n → W.cell? (p.add i) = some (.int .u8 (z.getD i 0))) :
    Calls Try.prog 6 #[.slice a n c, .int .i64 x, .int .i64 y] W fun e w' => e = .returned (.bool true) ∧ Below W.heap.size W w' := by
  by_cases c1 : 1048576 < n
  · exact guard_long a n c x y c1 W
  by_cases c2 : x < 0 ∨ (n : Int) < x
  · exact guard_off a n c x y (by omega) c2 W
  obtain ⟨k, rfl⟩ := Int.eq_ofNat_of_zero_le (show 0 ≤ x by omega)
  rcases h with ⟨rfl, rfl, rfl⟩ | ⟨p, rfl, hc⟩
  · obtain rfl : k = 0 := by omega
    exact case_nil y W hy1 hy2
  · exact case_row p n c k (fun i => z.getD i 0) y (by omega) (by omega) W hy1 hy2 hc
end Go.Proofs.Qxb6003379a
