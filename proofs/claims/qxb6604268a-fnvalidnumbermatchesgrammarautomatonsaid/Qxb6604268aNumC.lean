/-
  Seat b6604268a: the heads of the three laws on validNumber; 'stops within data'; 'shift invariant'.
-/
import Derived.Test.Qxb6604268aNumB
namespace Go.Proofs.Qxb6604268a
open Go.RowKit

theorem zzb11 (a : Option Addr) (n cap : Nat) (i : Int) (w : World) (_hn : n ≤ maxLen) :
    Calls Try.prog 11 #[.slice a n cap, .int .i64 i] w fun e w' => e = .returned (.bool (decide (n ≤ 1048576))) ∧ w' = w := by
  unfold maxLen at *
  by_cases h1 : n ≤ 1048576
  · rw [decide_eq_true h1]
    go_enter Try.func11, Try.ntmps11
    go_wp2
    go_ret
    exact ⟨rfl, rfl⟩
  · rw [decide_eq_false h1]
    go_enter Try.func11, Try.ntmps11
    go_wp2
    go_ret
    exact ⟨rfl, rfl⟩

theorem zzb14 (a : Option Addr) (n cap : Nat) (i : Int) (w : World) (_hn : n ≤ maxLen) :
    Calls Try.prog 14 #[.slice a n cap, .int .i64 i] w fun e w' => e = .returned (.bool (decide (n ≤ 1048576))) ∧ w' = w := by
  unfold maxLen at *
  by_cases h1 : n ≤ 1048576
  · rw [decide_eq_true h1]
    go_enter Try.func14, Try.ntmps14
    go_wp2
    go_ret
    exact ⟨rfl, rfl⟩
  · rw [decide_eq_false h1]
    go_enter Try.func14, Try.ntmps14
    go_wp2
    go_ret
    exact ⟨rfl, rfl⟩

theorem zzb15 (a : Option Addr) (n cap : Nat) (i : Int) (w : World) (_hn : n ≤ maxLen) :
    Calls Try.prog 15 #[.slice a n cap, .int .i64 i] w fun e w' => e = .returned (.bool (decide (n ≤ 1048576))) ∧ w' = w := by
  unfold maxLen at *
  by_cases h1 : n ≤ 1048576
  · rw [decide_eq_true h1]
    go_enter Try.func15, Try.ntmps15
    go_wp2
    go_ret
    exact ⟨rfl, rfl⟩
  · rw [decide_eq_false h1]
    go_enter Try.func15, Try.ntmps15
    go_wp2
    go_ret
    exact ⟨rfl, rfl⟩

theorem ByteRow.front {w : World} {a : Option Addr} {n m : Nat} {D : Nat → Int} (h : ByteRow w a n D) (hm : m ≤ n) : ByteRow w a m D := fun i hi => h i (by omega)

/-! ### FnValidNumberStopsWithinDataAndReadsNoFurther -/
set_option maxHeartbeats 1000000 in
theorem stops_out (a : Option Addr) (n cap : Nat) (i : Int) (w : World) (hn : n ≤ maxLen) (h : ¬ (n ≤ 1048576 ∧ 0 ≤ i ∧ i ≤ n)) :
    Calls Try.prog 5 #[.slice a n cap, .int .i64 i] w fun e w' => e = .returned (.bool true) ∧ Below w.heap.size w w' := by
  have hz := zzb14 a n cap i w hn
  by_cases h1 : n ≤ 1048576
  · rw [decide_eq_true h1] at hz
    have HZ : Hid (Calls Try.prog 14 #[.slice a n cap, .int .i64 i] w fun e w' => e = .returned (.bool true) ∧ w' = w) := hz
    clear hz
    have h2 : i < 0 ∨ (n : Int) < i := by omega
    clear h hn
    by_cases h3 : i < 0
    · clear h2
      go_enter Try.func5, Try.ntmps5
      go_wp2_with fail
      refine HZ.out.mono ?_
      rintro e w' ⟨rfl, rfl⟩
      go_wp2
      go_ret
      exact ⟨rfl, Below.refl _ _⟩
    · have h4 : (n : Int) < i := by omega
      clear h2
      go_enter Try.func5, Try.ntmps5
      go_wp2_with fail
      refine HZ.out.mono ?_
      rintro e w' ⟨rfl, rfl⟩
      go_wp2
      go_ret
      exact ⟨rfl, Below.refl _ _⟩
  · rw [decide_eq_false h1] at hz
    have HZ : Hid (Calls Try.prog 14 #[.slice a n cap, .int .i64 i] w fun e w' => e = .returned (.bool false) ∧ w' = w) := hz
    clear hz
    go_enter Try.func5, Try.ntmps5
    go_wp2_with fail
    refine HZ.out.mono ?_
    rintro e w' ⟨rfl, rfl⟩
    go_wp2
    go_ret
    exact ⟨rfl, Below.refl _ _⟩

set_option maxHeartbeats 1000000 in
theorem stops_main (a : Option Addr) (n cap i : Nat) (D : Nat → Int) (w : World) (hn : n ≤ 1048576) (hi : i ≤ n) (hr : ByteRow w a n D) (hnil : a = none → n = 0) :
    Calls Try.prog 5 #[.slice a n cap, .int .i64 i] w fun e w' => e = .returned (.bool true) ∧ Below w.heap.size w w' := by
  have hz := zzb14 a n cap i w (by unfold maxLen; omega)
  rw [decide_eq_true hn] at hz
  have HZ : Hid (Calls Try.prog 14 #[.slice a n cap, .int .i64 i] w fun e w' => e = .returned (.bool true) ∧ w' = w) := hz
  have HR : Hid (ByteRow w a n D) := hr
  have HN : Hid (a = none → n = 0) := hnil
  clear hz hr hnil
  have hin := vn_in (D := D) hi
  have hcut := vn_cut (D := D) hi
  obtain ⟨V, hV⟩ : ∃ V, V = vn D n i := ⟨_, rfl⟩
  rw [← hV] at hin hcut
  obtain ⟨j, ok⟩ := V
  simp only at hin hcut
  have HV : Hid (vn D n i = (j, ok)) := hV.symm
  have HC : Hid (vn D j i = (j, ok)) := hcut
  obtain ⟨hj1, hj2, hj3⟩ := hin
  clear hV hcut
  have hq : (ok && ((j : Int) == (i : Int))) = false := by
    cases ok
    · rfl
    · have := hj3 rfl
      simp; omega
  clear hj3
  go_enter Try.func5, Try.ntmps5
  go_wp2_with fail
  refine HZ.out.mono ?_
  rintro e w' ⟨rfl, hw⟩
  have hw := hw.symm
  subst hw
  clear HZ
  go_wp2_with fail
  refine (clone_any a n cap D w hn HR.out HN.out).mono ?_
  rintro e w1 ⟨a1, cap1, rfl, hcl, hb1⟩
  have HCL : Hid (Cloned w1 a1 n cap1 D) := hcl
  clear hcl
  go_wp2_with fail
  refine (zznum_any a1 n cap1 i D w1 hn hi HCL.out.2).mono ?_
  rintro e w' ⟨rfl, hw⟩
  have hw := hw.symm
  subst hw
  rw [HV.out]
  rcases HCL.out.1 with ⟨rfl, rfl, rfl⟩ | ⟨B, rfl, rfl⟩
  · obtain rfl : j = 0 := by omega
    obtain rfl : i = 0 := by omega
    have hok : ok = false := by simpa using hq
    subst hok
    go_wp2_with fail
    refine (zznum_any none 0 0 0 D w1 (by omega) (by omega) HCL.out.2).mono ?_
    rintro e w' ⟨rfl, hw⟩
    have hw := hw.symm
    subst hw
    rw [HC.out]
    go_wp2
    go_ret
    exact ⟨rfl, hb1⟩
  · cases ok
    · go_wp2_with fail
      refine (zznum_any (some ⟨B, 0, none⟩) j cap1 i D w1 (by omega) hj1 (HCL.out.2.front hj2)).mono ?_
      rintro e w' ⟨rfl, hw⟩
      have hw := hw.symm
      subst hw
      rw [HC.out]
      go_wp2
      go_ret
      exact ⟨rfl, hb1⟩
    · have hq2 : ((j : Int) == (i : Int)) = false := by simpa using hq
      clear hq
      go_wp2_with fail
      refine (zznum_any (some ⟨B, 0, none⟩) j cap1 i D w1 (by omega) hj1 (HCL.out.2.front hj2)).mono ?_
      rintro e w' ⟨rfl, hw⟩
      have hw := hw.symm
      subst hw
      rw [HC.out]
      go_wp2
      go_ret
      exact ⟨rfl, hb1⟩

end Go.Proofs.Qxb6604268a
