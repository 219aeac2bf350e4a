import Derived.Test.Qxb6003368aWalkE
namespace Go.Proofs.Qxb6003368a
open Go.RowKit

set_option maxHeartbeats 400000 in
theorem bytes_no (neg plus : Bool) (lead v : Int) (s : ByteArray) (h : 1048576 < s.size) (W : World) :
    Calls Try.prog 8 #[.bool neg, .bool plus, .int .i64 lead, .int .i64 v, .string s] W fun e w' => e = .returned (.bool false) ∧ w' = W := by
  have h2 : (1048576 : Int) < (s.size : Int) := by omega
  go_enter Try.func8, Try.ntmps8
  go_wp2
  go_ret
  exact ⟨rfl, rfl⟩
set_option maxHeartbeats 400000 in
theorem bytes_yes (neg plus : Bool) (lead v : Int) (s : ByteArray) (h : s.size ≤ 1048576) (W : World) :
    Calls Try.prog 8 #[.bool neg, .bool plus, .int .i64 lead, .int .i64 v, .string s] W fun e w' => e = .returned (.bool true) ∧ w' = W := by
  have h2 : (s.size : Int) ≤ 1048576 := by omega
  go_enter Try.func8, Try.ntmps8
  go_wp2
  go_ret
  exact ⟨rfl, rfl⟩
set_option maxHeartbeats 400000 in
theorem isDigit_any (c : UInt8) (W : World) :
    Calls Try.prog 9 #[.int .u8 c.toNat] W fun e w' => e = .returned (.bool (isD c)) ∧ w' = W := by
  by_cases h1 : 48 ≤ (c.toNat : Int)
  · by_cases h2 : (c.toNat : Int) ≤ 57
    · have := isD_yes h1 h2
      have H : Hid (isD c = true) := this
      clear this
      go_enter Try.func9, Try.ntmps9
      go_wp2
      go_ret
      exact ⟨ret_bool (by rw [H.out]), rfl⟩
    · have := isD_hi (c := c) (by omega)
      have H : Hid (isD c = false) := this
      clear this
      go_enter Try.func9, Try.ntmps9
      go_wp2
      go_ret
      exact ⟨ret_bool (by rw [H.out]), rfl⟩
  · have := isD_lo (c := c) (by omega)
    have H : Hid (isD c = false) := this
    clear this
    go_enter Try.func9, Try.ntmps9
    go_wp2
    go_ret
    exact ⟨ret_bool (by rw [H.out]), rfl⟩

theorem digs_parts {n : Nat} {ds r : List UInt8} (hd : ∀ c ∈ ds, isD c = true) (hr : digs r = 0) : digs (List.replicate n 48 ++ ds ++ r) = (List.replicate n 48 ++ ds).length := by
  rw [digs_append _ _ (fun c hc => ?_), hr, Nat.add_zero]
  rcases List.mem_append.1 hc with h | h
  · rw [(List.mem_replicate.1 h).2]; decide
  · exact hd c h
theorem sat_parts {n v : Nat} {ds : List UInt8} (hv : val ds = v) : sat (List.replicate n 48 ++ ds) = min v 1073741824 := by
  rw [sat_val, val_append, val_zeros, hv, Nat.zero_mul, Nat.zero_add]

/-- the three readings of sign, zeros, digits, rest -/
theorem read_plus {n v t : Nat} {ds r : List UInt8} (hn : n ≤ 64) (hl : ds.length ≤ 24) (hr1 : r.length ≤ 1048576) (hd : ∀ c ∈ ds, isD c = true) (hne : ds ≠ []) (hv : val ds = v) (hr : digs r = 0) (ht : min v 1073741824 = t) (W : World) :
    Calls Try.prog 12 #[.string (str (43 :: (List.replicate n 48 ++ ds ++ r)))] W fun e w' => e = .returned (.tuple #[.int .i64 (t : Nat), .string (str r), .bool true]) ∧ Q W w' := by
  have e1 := digs_parts (n := n) hd hr
  have h0 : 0 < ds.length := List.length_pos_iff.2 hne
  have c := exp_plus (List.replicate n 48 ++ ds ++ r) (by simp; omega) (by rw [e1]; simp; omega) W
  rw [e1, List.take_left, List.drop_left, sat_parts hv, ht] at c
  exact zz_exp c
theorem read_minus {n v t : Nat} {ds r : List UInt8} (hn : n ≤ 64) (hl : ds.length ≤ 24) (hr1 : r.length ≤ 1048576) (hd : ∀ c ∈ ds, isD c = true) (hne : ds ≠ []) (hv : val ds = v) (hr : digs r = 0) (ht : min v 1073741824 = t) (W : World) :
    Calls Try.prog 12 #[.string (str (45 :: (List.replicate n 48 ++ ds ++ r)))] W fun e w' => e = .returned (.tuple #[.int .i64 (-(t : Int)), .string (str r), .bool true]) ∧ Q W w' := by
  have e1 := digs_parts (n := n) hd hr
  have h0 : 0 < ds.length := List.length_pos_iff.2 hne
  have c := exp_minus (List.replicate n 48 ++ ds ++ r) (by simp; omega) (by rw [e1]; simp; omega) W
  rw [e1, List.take_left, List.drop_left, sat_parts hv, ht] at c
  exact zz_exp c
theorem read_none {n v t : Nat} {ds r : List UInt8} (hn : n ≤ 64) (hl : ds.length ≤ 24) (hr1 : r.length ≤ 1048576) (hd : ∀ c ∈ ds, isD c = true) (hne : ds ≠ []) (hv : val ds = v) (hr : digs r = 0) (ht : min v 1073741824 = t) (W : World) :
    Calls Try.prog 12 #[.string (str (List.replicate n 48 ++ ds ++ r))] W fun e w' => e = .returned (.tuple #[.int .i64 (t : Nat), .string (str r), .bool true]) ∧ Q W w' := by
  have e1 := digs_parts (n := n) hd hr
  have h0 : 0 < ds.length := List.length_pos_iff.2 hne
  have c := exp_none (List.replicate n 48 ++ ds ++ r) (by simp; omega) (by rw [e1]; simp; omega) W
  rw [e1, List.take_left, List.drop_left, sat_parts hv, ht] at c
  exact zz_exp c

theorem text_sign (g : UInt8) (a b r : List UInt8) : (({ data := #[g] } : ByteArray) ++ str a ++ str b ++ str r : ByteArray) = str (g :: (a ++ b ++ r)) := by
  show str [g] ++ str a ++ str b ++ str r = _
  rw [str_append, str_append, str_append]; simp
theorem text_none (a b r : List UInt8) : (({ data := #[] } : ByteArray) ++ str a ++ str b ++ str r : ByteArray) = str (a ++ b ++ r) := by
  show str [] ++ str a ++ str b ++ str r = _
  rw [str_append, str_append, str_append]; simp
theorem text_bad (g : UInt8) (r : List UInt8) : (({ data := #[g] } : ByteArray) ++ str r : ByteArray) = str (g :: r) := by
  show str [g] ++ str r = _
  rw [str_append]; rfl
theorem text_bad0 (r : List UInt8) : (({ data := #[] } : ByteArray) ++ str r : ByteArray) = str r := by
  show str [] ++ str r = _
  rw [str_append]; rfl

set_option maxHeartbeats 1000000 in
theorem arm_neg_nil (plus : Bool) (n v : Nat) (hn : n ≤ 64) (hv : v ≤ 1099511627776) (W : World) :
    Calls Try.prog 3 #[.bool true, .bool plus, .int .i64 n, .int .i64 v, .string (str [])] W fun e w' => e = .returned (.bool true) ∧ Q W w' := by
  have hz0 : (str []).size = 0 := str_size _
  have hz : (str []).size ≤ 1048576 := by omega
  have hr1 : ([] : List UInt8).length ≤ 1048576 := by simp
  have HD : Hid (digs [] = 0) := rfl
  have hs1 : (str (List.replicate n 48)).size ≤ 64 := by rw [str_size]; simpa using hn
  go_enter Try.func3, Try.ntmps3
  go_wp2_with fail
  refine (bytes_yes _ _ _ _ _ hz _).mono ?_
  rintro e w1 ⟨rfl, rfl⟩
  go_wp2_with fail
  refine (zeros_any n (by omega) _).mono ?_
  rintro e w3 ⟨rfl, q3⟩
  go_wp2_with fail
  refine (itoa_any v hv _).mono ?_
  rintro e w4 ⟨ds, rfl, hds, hne, hval, hlen, q4⟩
  have HV : Hid (val ds = v) := hval
  have hs2 : (str ds).size ≤ 24 := by rw [str_size]; exact hlen
  clear hval
  go_wp2_with fail
  rw [text_sign]
  by_cases hb : 1073741824 < v
  · have c5 := read_minus (n := n) (t := 1073741824) hn hlen hr1 hds hne HV.out HD.out (by omega) w4
    rw [show ((1073741824 : Nat) : Int) = 1073741824 from rfl] at c5
    refine c5.mono ?_
    clear c5
    rintro e w5 ⟨rfl, q5⟩
    go_wp2_with fail
    rw [text_bad]
    refine (zz_exp (fail_minus [] (by have := hr1; omega) HD.out w5)).mono ?_
    rintro e w6 ⟨rfl, q6⟩
    go_wp2_with fail
    go_ret
    exact ⟨rfl, ((q3.trans q4).trans q5).trans q6⟩
  · refine (read_minus (n := n) (t := v) hn hlen hr1 hds hne HV.out HD.out (by omega) w4).mono ?_
    rintro e w5 ⟨rfl, q5⟩
    go_wp2_with fail
    rw [text_bad]
    refine (zz_exp (fail_minus [] (by have := hr1; omega) HD.out w5)).mono ?_
    rintro e w6 ⟨rfl, q6⟩
    go_wp2_with fail
    go_ret
    exact ⟨rfl, ((q3.trans q4).trans q5).trans q6⟩

set_option maxHeartbeats 1000000 in
theorem arm_neg_cons (plus : Bool) (n v : Nat) (r : List UInt8) (hr1 : r.length ≤ 1048576) (hn : n ≤ 64) (hv : v ≤ 1099511627776) (c : UInt8) (t : List UInt8) (hrc : r = c :: t) (hc : isD c = false) (W : World) :
    Calls Try.prog 3 #[.bool true, .bool plus, .int .i64 n, .int .i64 v, .string (str r)] W fun e w' => e = .returned (.bool true) ∧ Q W w' := by
  have hz : (str r).size ≤ 1048576 := by rw [str_size]; exact hr1
  have hdr : digs r = 0 := by rw [hrc]; simp [digs, hc]
  have HD : Hid (digs r = 0) := hdr
  clear hdr
  have hp : 0 < (str r).size := by rw [str_size, hrc]; simp
  have g0 : (str r)[0] = c := by subst hrc; exact str_get _ 0 _
  have HRC : Hid (r = c :: t) := hrc
  clear hrc
  have hs1 : (str (List.replicate n 48)).size ≤ 64 := by rw [str_size]; simpa using hn
  go_enter Try.func3, Try.ntmps3
  go_wp2_with fail
  refine (bytes_yes _ _ _ _ _ hz _).mono ?_
  rintro e w1 ⟨rfl, rfl⟩
  go_wp2_with fail
  refine (isDigit_any c _).mono ?_
  rintro e w2 ⟨rfl, rfl⟩
  rw [hc]
  go_wp2_with fail
  refine (zeros_any n (by omega) _).mono ?_
  rintro e w3 ⟨rfl, q3⟩
  go_wp2_with fail
  refine (itoa_any v hv _).mono ?_
  rintro e w4 ⟨ds, rfl, hds, hne, hval, hlen, q4⟩
  have HV : Hid (val ds = v) := hval
  have hs2 : (str ds).size ≤ 24 := by rw [str_size]; exact hlen
  clear hval
  go_wp2_with fail
  rw [text_sign]
  by_cases hb : 1073741824 < v
  · have c5 := read_minus (n := n) (t := 1073741824) hn hlen hr1 hds hne HV.out HD.out (by omega) w4
    rw [show ((1073741824 : Nat) : Int) = 1073741824 from rfl] at c5
    refine c5.mono ?_
    clear c5
    rintro e w5 ⟨rfl, q5⟩
    go_wp2_with fail
    rw [text_bad]
    refine (zz_exp (fail_minus r (by have := hr1; omega) HD.out w5)).mono ?_
    rintro e w6 ⟨rfl, q6⟩
    go_wp2_with fail
    go_ret
    exact ⟨rfl, ((q3.trans q4).trans q5).trans q6⟩
  · refine (read_minus (n := n) (t := v) hn hlen hr1 hds hne HV.out HD.out (by omega) w4).mono ?_
    rintro e w5 ⟨rfl, q5⟩
    go_wp2_with fail
    rw [text_bad]
    refine (zz_exp (fail_minus r (by have := hr1; omega) HD.out w5)).mono ?_
    rintro e w6 ⟨rfl, q6⟩
    go_wp2_with fail
    go_ret
    exact ⟨rfl, ((q3.trans q4).trans q5).trans q6⟩

set_option maxHeartbeats 1000000 in
theorem arm_plus_nil (n v : Nat) (hn : n ≤ 64) (hv : v ≤ 1099511627776) (W : World) :
    Calls Try.prog 3 #[.bool false, .bool true, .int .i64 n, .int .i64 v, .string (str [])] W fun e w' => e = .returned (.bool true) ∧ Q W w' := by
  have hz0 : (str []).size = 0 := str_size _
  have hz : (str []).size ≤ 1048576 := by omega
  have hr1 : ([] : List UInt8).length ≤ 1048576 := by simp
  have HD : Hid (digs [] = 0) := rfl
  have hs1 : (str (List.replicate n 48)).size ≤ 64 := by rw [str_size]; simpa using hn
  go_enter Try.func3, Try.ntmps3
  go_wp2_with fail
  refine (bytes_yes _ _ _ _ _ hz _).mono ?_
  rintro e w1 ⟨rfl, rfl⟩
  go_wp2_with fail
  refine (zeros_any n (by omega) _).mono ?_
  rintro e w3 ⟨rfl, q3⟩
  go_wp2_with fail
  refine (itoa_any v hv _).mono ?_
  rintro e w4 ⟨ds, rfl, hds, hne, hval, hlen, q4⟩
  have HV : Hid (val ds = v) := hval
  have hs2 : (str ds).size ≤ 24 := by rw [str_size]; exact hlen
  clear hval
  go_wp2_with fail
  rw [text_sign]
  by_cases hb : 1073741824 < v
  · have c5 := read_plus (n := n) (t := 1073741824) hn hlen hr1 hds hne HV.out HD.out (by omega) w4
    rw [show ((1073741824 : Nat) : Int) = 1073741824 from rfl] at c5
    refine c5.mono ?_
    clear c5
    rintro e w5 ⟨rfl, q5⟩
    go_wp2_with fail
    rw [text_bad]
    refine (zz_exp (fail_plus [] (by have := hr1; omega) HD.out w5)).mono ?_
    rintro e w6 ⟨rfl, q6⟩
    go_wp2_with fail
    go_ret
    exact ⟨rfl, ((q3.trans q4).trans q5).trans q6⟩
  · refine (read_plus (n := n) (t := v) hn hlen hr1 hds hne HV.out HD.out (by omega) w4).mono ?_
    rintro e w5 ⟨rfl, q5⟩
    go_wp2_with fail
    rw [text_bad]
    refine (zz_exp (fail_plus [] (by have := hr1; omega) HD.out w5)).mono ?_
    rintro e w6 ⟨rfl, q6⟩
    go_wp2_with fail
    go_ret
    exact ⟨rfl, ((q3.trans q4).trans q5).trans q6⟩

set_option maxHeartbeats 1000000 in
theorem arm_plus_cons (n v : Nat) (r : List UInt8) (hr1 : r.length ≤ 1048576) (hn : n ≤ 64) (hv : v ≤ 1099511627776) (c : UInt8) (t : List UInt8) (hrc : r = c :: t) (hc : isD c = false) (W : World) :
    Calls Try.prog 3 #[.bool false, .bool true, .int .i64 n, .int .i64 v, .string (str r)] W fun e w' => e = .returned (.bool true) ∧ Q W w' := by
  have hz : (str r).size ≤ 1048576 := by rw [str_size]; exact hr1
  have hdr : digs r = 0 := by rw [hrc]; simp [digs, hc]
  have HD : Hid (digs r = 0) := hdr
  clear hdr
  have hp : 0 < (str r).size := by rw [str_size, hrc]; simp
  have g0 : (str r)[0] = c := by subst hrc; exact str_get _ 0 _
  have HRC : Hid (r = c :: t) := hrc
  clear hrc
  have hs1 : (str (List.replicate n 48)).size ≤ 64 := by rw [str_size]; simpa using hn
  go_enter Try.func3, Try.ntmps3
  go_wp2_with fail
  refine (bytes_yes _ _ _ _ _ hz _).mono ?_
  rintro e w1 ⟨rfl, rfl⟩
  go_wp2_with fail
  refine (isDigit_any c _).mono ?_
  rintro e w2 ⟨rfl, rfl⟩
  rw [hc]
  go_wp2_with fail
  refine (zeros_any n (by omega) _).mono ?_
  rintro e w3 ⟨rfl, q3⟩
  go_wp2_with fail
  refine (itoa_any v hv _).mono ?_
  rintro e w4 ⟨ds, rfl, hds, hne, hval, hlen, q4⟩
  have HV : Hid (val ds = v) := hval
  have hs2 : (str ds).size ≤ 24 := by rw [str_size]; exact hlen
  clear hval
  go_wp2_with fail
  rw [text_sign]
  by_cases hb : 1073741824 < v
  · have c5 := read_plus (n := n) (t := 1073741824) hn hlen hr1 hds hne HV.out HD.out (by omega) w4
    rw [show ((1073741824 : Nat) : Int) = 1073741824 from rfl] at c5
    refine c5.mono ?_
    clear c5
    rintro e w5 ⟨rfl, q5⟩
    go_wp2_with fail
    rw [text_bad]
    refine (zz_exp (fail_plus r (by have := hr1; omega) HD.out w5)).mono ?_
    rintro e w6 ⟨rfl, q6⟩
    go_wp2_with fail
    go_ret
    exact ⟨rfl, ((q3.trans q4).trans q5).trans q6⟩
  · refine (read_plus (n := n) (t := v) hn hlen hr1 hds hne HV.out HD.out (by omega) w4).mono ?_
    rintro e w5 ⟨rfl, q5⟩
    go_wp2_with fail
    rw [text_bad]
    refine (zz_exp (fail_plus r (by have := hr1; omega) HD.out w5)).mono ?_
    rintro e w6 ⟨rfl, q6⟩
    go_wp2_with fail
    go_ret
    exact ⟨rfl, ((q3.trans q4).trans q5).trans q6⟩

set_option maxHeartbeats 1000000 in
theorem arm_none_nil (n v : Nat) (hn : n ≤ 64) (hv : v ≤ 1099511627776) (W : World) :
    Calls Try.prog 3 #[.bool false, .bool false, .int .i64 n, .int .i64 v, .string (str [])] W fun e w' => e = .returned (.bool true) ∧ Q W w' := by
  have hz0 : (str []).size = 0 := str_size _
  have hz : (str []).size ≤ 1048576 := by omega
  have hr1 : ([] : List UInt8).length ≤ 1048576 := by simp
  have HD : Hid (digs [] = 0) := rfl
  have hs1 : (str (List.replicate n 48)).size ≤ 64 := by rw [str_size]; simpa using hn
  go_enter Try.func3, Try.ntmps3
  go_wp2_with fail
  refine (bytes_yes _ _ _ _ _ hz _).mono ?_
  rintro e w1 ⟨rfl, rfl⟩
  go_wp2_with fail
  refine (zeros_any n (by omega) _).mono ?_
  rintro e w3 ⟨rfl, q3⟩
  go_wp2_with fail
  refine (itoa_any v hv _).mono ?_
  rintro e w4 ⟨ds, rfl, hds, hne, hval, hlen, q4⟩
  have HV : Hid (val ds = v) := hval
  have hs2 : (str ds).size ≤ 24 := by rw [str_size]; exact hlen
  clear hval
  go_wp2_with fail
  rw [text_none]
  by_cases hb : 1073741824 < v
  · have c5 := read_none (n := n) (t := 1073741824) hn hlen hr1 hds hne HV.out HD.out (by omega) w4
    rw [show ((1073741824 : Nat) : Int) = 1073741824 from rfl] at c5
    refine c5.mono ?_
    clear c5
    rintro e w5 ⟨rfl, q5⟩
    go_wp2_with fail
    rw [text_bad0]
    refine (zz_exp (fail_empty w5)).mono ?_
    rintro e w6 ⟨rfl, q6⟩
    go_wp2_with fail
    go_ret
    exact ⟨rfl, ((q3.trans q4).trans q5).trans q6⟩
  · refine (read_none (n := n) (t := v) hn hlen hr1 hds hne HV.out HD.out (by omega) w4).mono ?_
    rintro e w5 ⟨rfl, q5⟩
    go_wp2_with fail
    rw [text_bad0]
    refine (zz_exp (fail_empty w5)).mono ?_
    rintro e w6 ⟨rfl, q6⟩
    go_wp2_with fail
    go_ret
    exact ⟨rfl, ((q3.trans q4).trans q5).trans q6⟩

set_option maxHeartbeats 1000000 in
theorem arm_none_c43 (n v : Nat) (r : List UInt8) (hr1 : r.length ≤ 1048576) (hn : n ≤ 64) (hv : v ≤ 1099511627776) (c : UInt8) (t : List UInt8) (hrc : r = c :: t) (hc : isD c = false) (hx : (c.toNat : Int) = 43) (W : World) :
    Calls Try.prog 3 #[.bool false, .bool false, .int .i64 n, .int .i64 v, .string (str r)] W fun e w' => e = .returned (.bool true) ∧ Q W w' := by
  have hz : (str r).size ≤ 1048576 := by rw [str_size]; exact hr1
  have hdr : digs r = 0 := by rw [hrc]; simp [digs, hc]
  have HD : Hid (digs r = 0) := hdr
  clear hdr
  have hp : 0 < (str r).size := by rw [str_size, hrc]; simp
  have g0 : (str r)[0] = c := by subst hrc; exact str_get _ 0 _
  have HRC : Hid (r = c :: t) := hrc
  clear hrc
  have y0 : (((str r).size : Int) == 0) = false := beq_eq_false_iff_ne.2 (by omega)
  have y1 : ¬ str r = ByteArray.empty := by intro h; rw [h] at hp; simp at hp
  have x1 : ((c.toNat : Int) == 43) = true := by rw [hx]; rfl
  have x2 : ((c.toNat : Int) == 45) = false := by rw [hx]; rfl
  have x3 : ((c.toNat : Int) != 43) = false := by rw [hx]; rfl
  have x4 : ((c.toNat : Int) != 45) = true := by rw [hx]; rfl
  clear hx
  have hs1 : (str (List.replicate n 48)).size ≤ 64 := by rw [str_size]; simpa using hn
  go_enter Try.func3, Try.ntmps3
  go_wp2_with fail
  refine (bytes_yes _ _ _ _ _ hz _).mono ?_
  rintro e w1 ⟨rfl, rfl⟩
  go_wp2_with fail
  refine (isDigit_any c _).mono ?_
  rintro e w2 ⟨rfl, rfl⟩
  rw [hc]
  go_wp2_with fail
  refine (zeros_any n (by omega) _).mono ?_
  rintro e w3 ⟨rfl, q3⟩
  go_wp2_with fail
  refine (itoa_any v hv _).mono ?_
  rintro e w4 ⟨ds, rfl, hds, hne, hval, hlen, q4⟩
  have HV : Hid (val ds = v) := hval
  have hs2 : (str ds).size ≤ 24 := by rw [str_size]; exact hlen
  clear hval
  go_wp2_with fail
  rw [text_none]
  by_cases hb : 1073741824 < v
  · have c5 := read_none (n := n) (t := 1073741824) hn hlen hr1 hds hne HV.out HD.out (by omega) w4
    rw [show ((1073741824 : Nat) : Int) = 1073741824 from rfl] at c5
    refine c5.mono ?_
    clear c5
    rintro e w5 ⟨rfl, q5⟩
    go_wp2_with fail
    go_ret
    exact ⟨rfl, (q3.trans q4).trans q5⟩
  · refine (read_none (n := n) (t := v) hn hlen hr1 hds hne HV.out HD.out (by omega) w4).mono ?_
    rintro e w5 ⟨rfl, q5⟩
    go_wp2_with fail
    go_ret
    exact ⟨rfl, (q3.trans q4).trans q5⟩

set_option maxHeartbeats 1000000 in
theorem arm_none_c45 (n v : Nat) (r : List UInt8) (hr1 : r.length ≤ 1048576) (hn : n ≤ 64) (hv : v ≤ 1099511627776) (c : UInt8) (t : List UInt8) (hrc : r = c :: t) (hc : isD c = false) (hx : (c.toNat : Int) = 45) (W : World) :
    Calls Try.prog 3 #[.bool false, .bool false, .int .i64 n, .int .i64 v, .string (str r)] W fun e w' => e = .returned (.bool true) ∧ Q W w' := by
  have hz : (str r).size ≤ 1048576 := by rw [str_size]; exact hr1
  have hdr : digs r = 0 := by rw [hrc]; simp [digs, hc]
  have HD : Hid (digs r = 0) := hdr
  clear hdr
  have hp : 0 < (str r).size := by rw [str_size, hrc]; simp
  have g0 : (str r)[0] = c := by subst hrc; exact str_get _ 0 _
  have HRC : Hid (r = c :: t) := hrc
  clear hrc
  have y0 : (((str r).size : Int) == 0) = false := beq_eq_false_iff_ne.2 (by omega)
  have y1 : ¬ str r = ByteArray.empty := by intro h; rw [h] at hp; simp at hp
  have x1 : ((c.toNat : Int) == 43) = false := by rw [hx]; rfl
  have x2 : ((c.toNat : Int) == 45) = true := by rw [hx]; rfl
  have x3 : ((c.toNat : Int) != 43) = true := by rw [hx]; rfl
  have x4 : ((c.toNat : Int) != 45) = false := by rw [hx]; rfl
  clear hx
  have hs1 : (str (List.replicate n 48)).size ≤ 64 := by rw [str_size]; simpa using hn
  go_enter Try.func3, Try.ntmps3
  go_wp2_with fail
  refine (bytes_yes _ _ _ _ _ hz _).mono ?_
  rintro e w1 ⟨rfl, rfl⟩
  go_wp2_with fail
  refine (isDigit_any c _).mono ?_
  rintro e w2 ⟨rfl, rfl⟩
  rw [hc]
  go_wp2_with fail
  refine (zeros_any n (by omega) _).mono ?_
  rintro e w3 ⟨rfl, q3⟩
  go_wp2_with fail
  refine (itoa_any v hv _).mono ?_
  rintro e w4 ⟨ds, rfl, hds, hne, hval, hlen, q4⟩
  have HV : Hid (val ds = v) := hval
  have hs2 : (str ds).size ≤ 24 := by rw [str_size]; exact hlen
  clear hval
  go_wp2_with fail
  rw [text_none]
  by_cases hb : 1073741824 < v
  · have c5 := read_none (n := n) (t := 1073741824) hn hlen hr1 hds hne HV.out HD.out (by omega) w4
    rw [show ((1073741824 : Nat) : Int) = 1073741824 from rfl] at c5
    refine c5.mono ?_
    clear c5
    rintro e w5 ⟨rfl, q5⟩
    go_wp2_with fail
    go_ret
    exact ⟨rfl, (q3.trans q4).trans q5⟩
  · refine (read_none (n := n) (t := v) hn hlen hr1 hds hne HV.out HD.out (by omega) w4).mono ?_
    rintro e w5 ⟨rfl, q5⟩
    go_wp2_with fail
    go_ret
    exact ⟨rfl, (q3.trans q4).trans q5⟩

set_option maxHeartbeats 1000000 in
theorem arm_none_other (n v : Nat) (r : List UInt8) (hr1 : r.length ≤ 1048576) (hn : n ≤ 64) (hv : v ≤ 1099511627776) (c : UInt8) (t : List UInt8) (hrc : r = c :: t) (hc : isD c = false) (x1 : ((c.toNat : Int) == 43) = false) (x2 : ((c.toNat : Int) == 45) = false) (W : World) :
    Calls Try.prog 3 #[.bool false, .bool false, .int .i64 n, .int .i64 v, .string (str r)] W fun e w' => e = .returned (.bool true) ∧ Q W w' := by
  have hz : (str r).size ≤ 1048576 := by rw [str_size]; exact hr1
  have hdr : digs r = 0 := by rw [hrc]; simp [digs, hc]
  have HD : Hid (digs r = 0) := hdr
  clear hdr
  have hp : 0 < (str r).size := by rw [str_size, hrc]; simp
  have g0 : (str r)[0] = c := by subst hrc; exact str_get _ 0 _
  have HRC : Hid (r = c :: t) := hrc
  clear hrc
  have y0 : (((str r).size : Int) == 0) = false := beq_eq_false_iff_ne.2 (by omega)
  have y1 : ¬ str r = ByteArray.empty := by intro h; rw [h] at hp; simp at hp
  have x3 : ((c.toNat : Int) != 43) = true := by rw [bne, x1]; rfl
  have x4 : ((c.toNat : Int) != 45) = true := by rw [bne, x2]; rfl
  have hs1 : (str (List.replicate n 48)).size ≤ 64 := by rw [str_size]; simpa using hn
  go_enter Try.func3, Try.ntmps3
  go_wp2_with fail
  refine (bytes_yes _ _ _ _ _ hz _).mono ?_
  rintro e w1 ⟨rfl, rfl⟩
  go_wp2_with fail
  refine (isDigit_any c _).mono ?_
  rintro e w2 ⟨rfl, rfl⟩
  rw [hc]
  go_wp2_with fail
  refine (zeros_any n (by omega) _).mono ?_
  rintro e w3 ⟨rfl, q3⟩
  go_wp2_with fail
  refine (itoa_any v hv _).mono ?_
  rintro e w4 ⟨ds, rfl, hds, hne, hval, hlen, q4⟩
  have HV : Hid (val ds = v) := hval
  have hs2 : (str ds).size ≤ 24 := by rw [str_size]; exact hlen
  clear hval
  go_wp2_with fail
  rw [text_none]
  by_cases hb : 1073741824 < v
  · have c5 := read_none (n := n) (t := 1073741824) hn hlen hr1 hds hne HV.out HD.out (by omega) w4
    rw [show ((1073741824 : Nat) : Int) = 1073741824 from rfl] at c5
    refine c5.mono ?_
    clear c5
    rintro e w5 ⟨rfl, q5⟩
    go_wp2_with fail
    rw [text_bad0]
    have c6 := zz_exp (fail_none c t (by have := hr1; rw [HRC.out] at this; simp at this; omega) (by rw [← HRC.out]; exact HD.out) x1 x2 w5)
    rw [← HRC.out] at c6
    refine c6.mono ?_
    clear c6
    rintro e w6 ⟨rfl, q6⟩
    go_wp2_with fail
    go_ret
    exact ⟨rfl, ((q3.trans q4).trans q5).trans q6⟩
  · refine (read_none (n := n) (t := v) hn hlen hr1 hds hne HV.out HD.out (by omega) w4).mono ?_
    rintro e w5 ⟨rfl, q5⟩
    go_wp2_with fail
    rw [text_bad0]
    have c6 := zz_exp (fail_none c t (by have := hr1; rw [HRC.out] at this; simp at this; omega) (by rw [← HRC.out]; exact HD.out) x1 x2 w5)
    rw [← HRC.out] at c6
    refine c6.mono ?_
    clear c6
    rintro e w6 ⟨rfl, q6⟩
    go_wp2_with fail
    go_ret
    exact ⟨rfl, ((q3.trans q4).trans q5).trans q6⟩

end Go.Proofs.Qxb6003368a
