/-
  Seat b6604268a: validNumber.
-/
import Derived.Test.Qxb6604268aNumA
import Derived.Deep.CutBlock
namespace Go.Proofs.Qxb6604268a
open Go.RowKit

/-- 'data[i] is c', within the bounds. -/
def isc (D : Nat → Int) (n i : Nat) (c : Int) : Bool := decide (i < n) && (D i == c)
theorem isc_out {D : Nat → Int} {n i : Nat} {c : Int} (h : ¬ i < n) : isc D n i c = false := by simp [isc, h]
theorem isc_in {D : Nat → Int} {n i : Nat} {c : Int} (h : i < n) : isc D n i c = (D i == c) := by simp [isc, h]
theorem p1_isc (D : Nat → Int) (n i : Nat) : p1 D n i = if isc D n i 45 then i + 1 else i := by simp [p1, isc]
def isc2 (D : Nat → Int) (n i : Nat) (c d : Int) : Bool := decide (i < n) && (D i == c || D i == d)
theorem isc2_out {D : Nat → Int} {n i : Nat} {c d : Int} (h : ¬ i < n) : isc2 D n i c d = false := by simp [isc2, h]
theorem isc2_in {D : Nat → Int} {n i : Nat} {c d : Int} (h : i < n) : isc2 D n i c d = (D i == c || D i == d) := by simp [isc2, h]

theorem bool_eq {a b : Bool} (h : a = b) : Value.bool a = .bool b := by rw [h]
theorem i64_eq {a b : Int} (h : a = b) : Value.int .i64 a = .int .i64 b := by rw [h]

/-- How a way ends. -/
theorem ret_pair {x y : Int} {b d : Bool} (h : x = y) (h2 : b = d) : Ending.returned (.tuple #[.int .i64 x, .bool b]) = .returned (.tuple #[.int .i64 y, .bool d]) := by rw [h, h2]

theorem p2_end {D : Nat → Int} {n : Nat} : p2 D n n = (n, false) := by simp [p2]
theorem p2_zero {D : Nat → Int} {n j : Nat} (h : j < n) (c : D j = 48) : p2 D n j = (j + 1, true) := by
  unfold p2; rw [if_neg (by omega), if_pos c]
theorem p2_dig {D : Nat → Int} {n j : Nat} (h : j < n) (c1 : 49 ≤ D j) (c2 : D j ≤ 57) : p2 D n j = (skip D n (j + 1), true) := by
  unfold p2; rw [if_neg (by omega), if_neg (by omega), if_pos ⟨c1, c2⟩]
theorem p2_no {D : Nat → Int} {n j : Nat} (h : j < n) (c0 : ¬ D j = 48) (c : ¬ (49 ≤ D j ∧ D j ≤ 57)) : p2 D n j = (j, false) := by
  unfold p2; rw [if_neg (by omega), if_neg c0, if_neg c]

/-- What is left behind the sign. -/
def tail2 (D : Nat → Int) (n j : Nat) : Nat × Bool := if (p2 D n j).2 then rest D n (p2 D n j).1 else ((p2 D n j).1, false)
theorem vn_tail2 (D : Nat → Int) (n i : Nat) : vn D n i = tail2 D n (p1 D n i) := rfl
theorem tail2_true {D : Nat → Int} {n j k : Nat} (h : p2 D n j = (k, true)) : tail2 D n j = rest D n k := by simp [tail2, h]
theorem tail2_false {D : Nat → Int} {n j k : Nat} (h : p2 D n j = (k, false)) : tail2 D n j = (k, false) := by simp [tail2, h]

theorem isc_lt {D : Nat → Int} {n i : Nat} {c : Int} (h : isc D n i c = true) : i < n := by simp [isc] at h; exact h.1
theorem isc2_lt {D : Nat → Int} {n i : Nat} {c d : Int} (h : isc2 D n i c d = true) : i < n := by simp [isc2] at h; exact h.1
theorem rest_no {D : Nat → Int} {n k : Nat} (h : isc D n k 46 = false) : rest D n k = p4 D n k := by
  have e : p3 D n k = (k, true) := by unfold p3; rw [if_neg (fun c => by simp [isc, c.1, c.2] at h)]
  simp [rest, e]
theorem rest_fail {D : Nat → Int} {n k : Nat} (h : isc D n k 46 = true) (hs : skip D n (k + 1) = k + 1) : rest D n k = (k + 1, false) := by
  have e : p3 D n k = (k + 1, false) := by
    unfold p3; rw [if_pos (by simpa [isc] using h), hs]; simp
  simp [rest, e]
theorem rest_ok {D : Nat → Int} {n k : Nat} (h : isc D n k 46 = true) (hs : ¬ skip D n (k + 1) = k + 1) : rest D n k = p4 D n (skip D n (k + 1)) := by
  have e : p3 D n k = (skip D n (k + 1), true) := by
    unfold p3; rw [if_pos (by simpa [isc] using h)]; simp [hs]
  simp [rest, e]
theorem p4_no {D : Nat → Int} {n m : Nat} (h : isc2 D n m 101 69 = false) : p4 D n m = (m, true) := by
  unfold p4; rw [if_neg (fun c => by rcases c.2 with c2 | c2 <;> simp [isc2, c.1, c2] at h)]
theorem p4_yes {D : Nat → Int} {n m : Nat} (h : isc2 D n m 101 69 = true) : p4 D n m = (skip D n (es D n (m + 1)), decide (skip D n (es D n (m + 1)) ≠ es D n (m + 1))) := by
  unfold p4; rw [if_pos (by simpa [isc2] using h)]
theorem es_isc2 (D : Nat → Int) (n i : Nat) : es D n i = if isc2 D n i 43 45 then i + 1 else i := by simp [es, isc2]

set_option maxRecDepth 100000 in
set_option maxHeartbeats 3200000 in
theorem num_core (a : Option Addr) (n cap i : Nat) (D : Nat → Int) (V : Nat × Bool) (w : World) (hn : n ≤ 1048576) (hi : i ≤ n) (hr : ByteRow w a n D) (hV : V = vn D n i) :
    Calls Try.prog 17 #[.slice a n cap, .int .i64 i] w fun e w' => e = .returned (.tuple #[.int .i64 V.1, .bool V.2]) ∧ w' = w := by
  have HR : Hid (ByteRow w a n D) := hr
  have HV : Hid (V = tail2 D n (p1 D n i)) := hV
  clear hr hV
  go_enter Try.func17, Try.ntmps17
  go_upto_region 1 with fail
  go_cut [18] (fun v wx => v = .bool (isc D n i 45) ∧ wx = w)
  case first =>
    by_cases hlt : i < n
    · obtain ⟨b, off, rfl, hl, hc, hd⟩ := HR.out i hlt
      have HI : Hid (isc D n i 45 = (D i == 45)) := isc_in hlt
      clear HR
      go_wp2
      go_meet
      exact ⟨bool_eq HI.out.symm, rfl⟩
    · have HI : Hid (isc D n i 45 = false) := isc_out hlt
      clear HR
      go_wp2
      go_meet
      exact ⟨bool_eq HI.out.symm, rfl⟩
  case rest =>
  obtain ⟨rfl, rfl⟩ := hcut
  have H1 : Hid (p1 D n i = if isc D n i 45 then i + 1 else i) := p1_isc D n i
  have hP := p1_in (D := D) hi
  generalize isc D n i 45 = B at H1 ⊢
  go_upto_if 18 with fail
  go_cut [1, 18] (fun v _ wx => v = .int .i64 (p1 D n i) ∧ wx = wc)
  case first =>
    clear HR
    cases B
    · have E : Hid (p1 D n i = i) := H1
      clear H1 hP
      go_wp2
      go_meet
      exact ⟨i64_eq (by rw [E.out]), rfl⟩
    · have E : Hid (p1 D n i = i + 1) := H1
      have hlt : i + 1 ≤ n := by rw [← E.out]; exact hP.2
      clear H1 hP
      go_wp2
      go_meet
      exact ⟨i64_eq (by rw [E.out]; rfl), rfl⟩
  case rest =>
  obtain ⟨rfl, rfl⟩ := hcut
  clear H1
  have hP2 := hP.2
  generalize p1 D n i = j at HV hP2 ⊢
  clear hP hi
  go_upto_block 0 with fail
  go_cut [1] (fun v wx => ∃ k : Nat, v = .int .i64 k ∧ k ≤ n ∧ Hid (V = rest D n k) ∧ wx = wc)
  case first =>
    by_cases hjn : j = n
    · have E : Hid (V = (n, false)) := by rw [HV.out, hjn]; exact tail2_false p2_end
      clear HR HV
      subst hjn
      go_wp2
      go_ret2
      exact ⟨ret_pair (by rw [E.out]) (by rw [E.out]), rfl⟩
    · have hlt : j < n := by omega
      have hns : ((j : Int) == (n : Int)) = false := by simp; omega
      obtain ⟨b, off, rfl, hl, hc, hd⟩ := HR.out j hlt
      have hsk := skip_any (some ⟨b, off, none⟩) n cap (j + 1) D wc hn (by omega) HR.out
      have HS : Hid (Calls Try.prog 20 #[.slice (some ⟨b, off, none⟩) n cap, .int .i64 ((j : Int) + 1)] wc fun e w' => e = .returned (.int .i64 (skip D n (j + 1))) ∧ w' = wc) := hsk
      clear hsk HR
      by_cases c0 : D j = 48
      · have E : Hid (V = rest D n (j + 1)) := by rw [HV.out]; exact tail2_true (p2_zero hlt c0)
        rw [c0] at hc
        clear HV HS c0 hd
        go_wp2
        go_meet
        exact ⟨j + 1, by go_num, by omega, E, rfl⟩
      · have c0' : (D j == 48) = false := by simpa using c0
        by_cases c1 : 49 ≤ D j ∧ D j ≤ 57
        · have E : Hid (V = rest D n (skip D n (j + 1))) := by rw [HV.out]; exact tail2_true (p2_dig hlt c1.1 c1.2)
          have hl2 := skip_le (D := D) (n := n) (i := j + 1) (by omega)
          obtain ⟨c1a, c1b⟩ := c1
          clear HV c0
          generalize D j = c at hc hd c0' c1a c1b
          go_wp2_with (first | (go_at_call 20; refine HS.out.mono ?_; rintro e w' ⟨rfl, rfl⟩))
          go_meet
          exact ⟨_, rfl, hl2, E, rfl⟩
        · have E : Hid (V = (j, false)) := by rw [HV.out]; exact tail2_false (p2_no hlt c0 c1)
          clear HV HS c0
          generalize D j = c at hc hd c0' c1
          by_cases c2 : 49 ≤ c
          · have c3 : ¬ c ≤ 57 := fun h => c1 ⟨c2, h⟩
            clear c1
            go_wp2
            go_ret2
            exact ⟨ret_pair (by rw [E.out]) (by rw [E.out]), rfl⟩
          · clear c1
            go_wp2
            go_ret2
            exact ⟨ret_pair (by rw [E.out]) (by rw [E.out]), rfl⟩
  case rest =>
  obtain ⟨k, rfl, hk, HV3, rfl⟩ := hcut
  clear HV hP2
  go_upto_region 10 with fail
  go_cut [63] (fun v wx => v = .bool (isc D n k 46) ∧ wx = wc)
  case first =>
    by_cases hlt : k < n
    · obtain ⟨b, off, rfl, hl, hc, hd⟩ := HR.out k hlt
      have HI : Hid (isc D n k 46 = (D k == 46)) := isc_in hlt
      clear HR
      go_wp2
      go_meet
      exact ⟨bool_eq HI.out.symm, rfl⟩
    · have HI : Hid (isc D n k 46 = false) := isc_out hlt
      clear HR
      go_wp2
      go_meet
      exact ⟨bool_eq HI.out.symm, rfl⟩
  case rest =>
  obtain ⟨rfl, rfl⟩ := hcut
  have H1 : Hid (isc D n k 46 = false → rest D n k = p4 D n k) := rest_no
  have H2 : Hid (isc D n k 46 = true → skip D n (k + 1) = k + 1 → rest D n k = (k + 1, false)) := rest_fail
  have H3 : Hid (isc D n k 46 = true → ¬ skip D n (k + 1) = k + 1 → rest D n k = p4 D n (skip D n (k + 1))) := rest_ok
  have H4 : Hid (isc D n k 46 = true → k < n) := isc_lt
  generalize isc D n k 46 = B at H1 H2 H3 H4 ⊢
  go_upto_if 63 with fail
  go_cut [1, 63] (fun v _ wx => ∃ m : Nat, v = .int .i64 m ∧ m ≤ n ∧ Hid (V = p4 D n m) ∧ wx = wc)
  case first =>
    cases B
    · have E : Hid (V = p4 D n k) := HV3.out.trans (H1.out rfl)
      clear HR HV3 H1 H2 H3 H4
      go_wp2
      go_meet
      exact ⟨k, rfl, hk, E, rfl⟩
    · have hlt := H4.out rfl
      have hsk := skip_any a n cap (k + 1) D wc hn (by omega) HR.out
      have HS : Hid (Calls Try.prog 20 #[.slice a n cap, .int .i64 ((k : Int) + 1)] wc fun e w' => e = .returned (.int .i64 (skip D n (k + 1))) ∧ w' = wc) := hsk
      have hl2 := skip_le (D := D) (n := n) (i := k + 1) (by omega)
      clear hsk HR
      by_cases he : skip D n (k + 1) = k + 1
      · have E : Hid (V = (k + 1, false)) := HV3.out.trans (H2.out rfl he)
        rw [he] at HS
        clear HV3 H1 H2 H3 H4 he hl2
        have hq : (((k + 1 : Nat) : Int) == (k : Int) + 1) = true := by simp
        go_wp2_with (first | (go_at_call 20; refine HS.out.mono ?_; rintro e w' ⟨rfl, rfl⟩))
        go_ret2
        exact ⟨ret_pair (by rw [E.out]; simp) (by rw [E.out]), rfl⟩
      · have E : Hid (V = p4 D n (skip D n (k + 1))) := HV3.out.trans (H3.out rfl he)
        have hq : (((skip D n (k + 1) : Nat) : Int) == (k : Int) + 1) = false := by simp; omega
        clear HV3 H1 H2 H3 H4 he
        generalize skip D n (k + 1) = m at HS E hq hl2
        go_wp2_with (first | (go_at_call 20; refine HS.out.mono ?_; rintro e w' ⟨rfl, rfl⟩))
        go_meet
        exact ⟨m, rfl, hl2, E, rfl⟩
  case rest =>
  obtain ⟨m, rfl, hm, HV4, rfl⟩ := hcut
  clear HV3 H1 H2 H3 H4 hk
  go_upto_region 15 with fail
  go_cut [90] (fun v wx => v = .bool (isc2 D n m 101 69) ∧ wx = wc)
  case first =>
    by_cases hlt : m < n
    · obtain ⟨b, off, rfl, hl, hc, hd⟩ := HR.out m hlt
      have HI : Hid (isc2 D n m 101 69 = (D m == 101 || D m == 69)) := isc2_in hlt
      clear HR
      generalize D m = c at hc hd HI
      by_cases c1 : c = 101
      · subst c1
        go_wp2
        go_meet
        exact ⟨bool_eq (by rw [HI.out]; rfl), rfl⟩
      · have c1' : (c == 101) = false := by simpa using c1
        have HI2 : Hid (isc2 D n m 101 69 = (c == 69)) := by rw [HI.out, c1']; simp [Hid]
        clear HI c1
        go_wp2
        go_meet
        exact ⟨bool_eq HI2.out.symm, rfl⟩
    · have HI : Hid (isc2 D n m 101 69 = false) := isc2_out hlt
      clear HR
      go_wp2
      go_meet
      exact ⟨bool_eq HI.out.symm, rfl⟩
  case rest =>
  obtain ⟨rfl, rfl⟩ := hcut
  have H1 : Hid (isc2 D n m 101 69 = false → p4 D n m = (m, true)) := p4_no
  have H2 : Hid (isc2 D n m 101 69 = true → p4 D n m = (skip D n (es D n (m + 1)), decide (skip D n (es D n (m + 1)) ≠ es D n (m + 1)))) := p4_yes
  have H4 : Hid (isc2 D n m 101 69 = true → m < n) := isc2_lt
  generalize isc2 D n m 101 69 = B at H1 H2 H4 ⊢
  cases B
  · have E : Hid (V = (m, true)) := HV4.out.trans (H1.out rfl)
    clear HR HV4 H1 H2 H4
    go_wp2
    go_ret2
    exact ⟨ret_pair (by rw [E.out]) (by rw [E.out]), rfl⟩
  have E : Hid (V = (skip D n (es D n (m + 1)), decide (skip D n (es D n (m + 1)) ≠ es D n (m + 1)))) := HV4.out.trans (H2.out rfl)
  have hlt := H4.out rfl
  clear HV4 H1 H2 H4
  go_upto_region 17 with fail
  go_cut [110] (fun v wx => v = .bool (isc2 D n (m + 1) 43 45) ∧ wx = wc)
  case first =>
    by_cases hlt : m + 1 < n
    · obtain ⟨b, off, rfl, hl, hc, hd⟩ := HR.out (m + 1) hlt
      have HI : Hid (isc2 D n (m + 1) 43 45 = (D (m + 1) == 43 || D (m + 1) == 45)) := isc2_in hlt
      clear HR
      generalize D (m + 1) = c at hc hd HI
      by_cases c1 : c = 43
      · subst c1
        go_wp2
        go_meet
        exact ⟨bool_eq (by rw [HI.out]; rfl), rfl⟩
      · have c1' : (c == 43) = false := by simpa using c1
        have HI2 : Hid (isc2 D n (m + 1) 43 45 = (c == 45)) := by rw [HI.out, c1']; simp [Hid]
        clear HI c1
        go_wp2
        go_meet
        exact ⟨bool_eq HI2.out.symm, rfl⟩
    · have HI : Hid (isc2 D n (m + 1) 43 45 = false) := isc2_out hlt
      clear HR
      go_wp2
      go_meet
      exact ⟨bool_eq HI.out.symm, rfl⟩
  case rest =>
  obtain ⟨rfl, rfl⟩ := hcut
  have H1 : Hid (es D n (m + 1) = if isc2 D n (m + 1) 43 45 then m + 1 + 1 else m + 1) := es_isc2 D n (m + 1)
  have hes := es_in (D := D) (n := n) (i := m + 1) (by omega)
  generalize isc2 D n (m + 1) 43 45 = B at H1 ⊢
  go_upto_if 110 with fail
  go_cut [7, 110] (fun v _ wx => v = .int .i64 (es D n (m + 1)) ∧ wx = wc)
  case first =>
    clear HR E
    cases B
    · have F : Hid (es D n (m + 1) = m + 1) := H1
      clear H1 hes
      go_wp2
      go_meet
      exact ⟨i64_eq (by rw [F.out]; rfl), rfl⟩
    · have F : Hid (es D n (m + 1) = m + 1 + 1) := H1
      clear H1 hes
      go_wp2
      go_meet
      exact ⟨i64_eq (by rw [F.out]; omega), rfl⟩
  case rest =>
  obtain ⟨rfl, rfl⟩ := hcut
  clear H1 hlt
  generalize es D n (m + 1) = s at E hes ⊢
  have hsk := skip_any a n cap s D wc hn hes.2 HR.out
  have HS : Hid (Calls Try.prog 20 #[.slice a n cap, .int .i64 (s : Int)] wc fun e w' => e = .returned (.int .i64 (skip D n s)) ∧ w' = wc) := hsk
  have hl2 := skip_le (D := D) (n := n) (i := s) hes.2
  clear hsk HR
  by_cases he : skip D n s = s
  · have E2 : Hid (V = (s, false)) := by rw [E.out, he]; simp [Hid]
    rw [he] at HS
    clear E he hl2
    go_wp2_with (first | (go_at_call 20; refine HS.out.mono ?_; rintro e w' ⟨rfl, rfl⟩))
    go_ret2
    exact ⟨ret_pair (by rw [E2.out]) (by rw [E2.out]), rfl⟩
  · have E2 : Hid (V = (skip D n s, true)) := by rw [E.out]; simp [Hid, he]
    have hq : (((skip D n s : Nat) : Int) == (s : Int)) = false := by simp; omega
    clear E he
    generalize skip D n s = t at HS E2 hq hl2
    go_wp2_with (first | (go_at_call 20; refine HS.out.mono ?_; rintro e w' ⟨rfl, rfl⟩))
    go_ret2
    exact ⟨ret_pair (by rw [E2.out]) (by rw [E2.out]), rfl⟩

theorem zznum_any (a : Option Addr) (n cap i : Nat) (D : Nat → Int) (w : World) (hn : n ≤ 1048576) (hi : i ≤ n) (hr : ByteRow w a n D) :
    Calls Try.prog 12 #[.slice a n cap, .int .i64 i] w fun e w' => e = .returned (.tuple #[.int .i64 (vn D n i).1, .bool (vn D n i).2]) ∧ w' = w := by
  have hc := num_core a n cap i D (vn D n i) w hn hi hr rfl
  generalize vn D n i = V at hc ⊢
  have HC : Hid (Calls Try.prog 17 #[.slice a n cap, .int .i64 i] w fun e w' => e = .returned (.tuple #[.int .i64 V.1, .bool V.2]) ∧ w' = w) := hc
  clear hc hr
  go_enter Try.func12, Try.ntmps12
  go_wp2_with fail
  refine HC.out.mono ?_
  rintro e w' ⟨rfl, rfl⟩
  go_wp2
  go_ret2
  exact ⟨rfl, rfl⟩

end Go.Proofs.Qxb6604268a
