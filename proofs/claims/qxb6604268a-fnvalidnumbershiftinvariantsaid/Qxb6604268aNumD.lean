/-
  Seat b6604268a: 'shift invariant'.
-/
import Derived.Test.Qxb6604268aNumC
namespace Go.Proofs.Qxb6604268a
open Go.RowKit

/-! ### FnValidNumberShiftInvariant -/
set_option maxHeartbeats 1000000 in
theorem shift_out (a : Option Addr) (n cap : Nat) (i : Int) (w : World) (hn : n ≤ maxLen) (h : ¬ (n ≤ 1048576 ∧ 0 ≤ i ∧ i ≤ n)) :
    Calls Try.prog 6 #[.slice a n cap, .int .i64 i] w fun e w' => e = .returned (.bool true) ∧ Below w.heap.size w w' := by
  have hz := zzb15 a n cap i w hn
  by_cases h1 : n ≤ 1048576
  · rw [decide_eq_true h1] at hz
    have HZ : Hid (Calls Try.prog 15 #[.slice a n cap, .int .i64 i] w fun e w' => e = .returned (.bool true) ∧ w' = w) := hz
    clear hz
    have h2 : i < 0 ∨ (n : Int) < i := by omega
    clear h hn
    by_cases h3 : i < 0
    · clear h2
      go_enter Try.func6, Try.ntmps6
      go_wp2_with fail
      refine HZ.out.mono ?_
      rintro e w' ⟨rfl, rfl⟩
      go_wp2
      go_ret
      exact ⟨rfl, Below.refl _ _⟩
    · have h4 : (n : Int) < i := by omega
      clear h2
      go_enter Try.func6, Try.ntmps6
      go_wp2_with fail
      refine HZ.out.mono ?_
      rintro e w' ⟨rfl, rfl⟩
      go_wp2
      go_ret
      exact ⟨rfl, Below.refl _ _⟩
  · rw [decide_eq_false h1] at hz
    have HZ : Hid (Calls Try.prog 15 #[.slice a n cap, .int .i64 i] w fun e w' => e = .returned (.bool false) ∧ w' = w) := hz
    clear hz
    go_enter Try.func6, Try.ntmps6
    go_wp2_with fail
    refine HZ.out.mono ?_
    rintro e w' ⟨rfl, rfl⟩
    go_wp2
    go_ret
    exact ⟨rfl, Below.refl _ _⟩

theorem ByteRow.back {w : World} {B n i : Nat} {D : Nat → Int} (h : ByteRow w (some ⟨B, 0, none⟩) n D) : ByteRow w (some ⟨B, i, none⟩) (n - i) (fun k => D (i + k)) := fun k hk => by
  obtain ⟨b, off, h1, h2, h3, h4⟩ := h (i + k) (by omega)
  simp only [Option.some.injEq, Addr.mk.injEq, and_true] at h1
  obtain ⟨rfl, rfl⟩ := h1
  exact ⟨_, _, rfl, h2, by simpa using h3, h4⟩

set_option maxHeartbeats 1000000 in
theorem shift_main (a : Option Addr) (n cap i : Nat) (D : Nat → Int) (w : World) (hn : n ≤ 1048576) (hi : i ≤ n) (hr : ByteRow w a n D) (hnil : a = none → n = 0) :
    Calls Try.prog 6 #[.slice a n cap, .int .i64 i] w fun e w' => e = .returned (.bool true) ∧ Below w.heap.size w w' := by
  have hz := zzb15 a n cap i w (by unfold maxLen; omega)
  rw [decide_eq_true hn] at hz
  have HZ : Hid (Calls Try.prog 15 #[.slice a n cap, .int .i64 i] w fun e w' => e = .returned (.bool true) ∧ w' = w) := hz
  have HR : Hid (ByteRow w a n D) := hr
  have HN : Hid (a = none → n = 0) := hnil
  clear hz hr hnil
  have hsh := vn_shift (D := D) (n := n) (i := i) (s := 0) (by omega)
  have hin := vn_in (D := fun k => D (i + k)) (n := n - i) (i := 0) (by omega)
  rw [Nat.add_zero] at hsh
  obtain ⟨V, hV⟩ : ∃ V, V = vn (fun k => D (i + k)) (n - i) 0 := ⟨_, rfl⟩
  rw [← hV] at hin hsh
  obtain ⟨k, ok⟩ := V
  simp only [mv] at hin hsh
  have HV : Hid (vn D n i = (k + i, ok)) := hsh.symm
  have HC : Hid (vn (fun k => D (i + k)) (n - i) 0 = (k, ok)) := hV.symm
  have hk : k + i ≤ n := by omega
  clear hV hsh hin
  go_enter Try.func6, Try.ntmps6
  go_wp2_with fail
  refine HZ.out.mono ?_
  rintro e w' ⟨rfl, hw⟩
  have hw := hw.symm
  subst hw
  clear HZ
  go_wp2_with fail
  refine (clone_any a n cap D w hn HR.out HN.out).mono ?_
  rintro e w1 ⟨a1, cap1, rfl, hcl, hb1⟩
  have HCL : Hid (Cloned w1 a1 n cap1 D) := hcl
  clear hcl
  go_wp2_with fail
  refine (zznum_any a1 n cap1 i D w1 hn hi HCL.out.2).mono ?_
  rintro e w' ⟨rfl, hw⟩
  have hw := hw.symm
  subst hw
  rw [HV.out]
  rcases HCL.out.1 with ⟨rfl, rfl, rfl⟩ | ⟨B, rfl, rfl⟩
  · obtain rfl : i = 0 := by omega
    obtain rfl : k = 0 := by omega
    have hrow : ByteRow w1 none 0 (fun k => D (0 + k)) := fun i hi => by omega
    go_wp2_with fail
    refine (zznum_any none 0 0 0 _ w1 (by omega) (by omega) hrow).mono ?_
    rintro e w' ⟨rfl, hw⟩
    have hw := hw.symm
    subst hw
    have hC := HC.out
    rw [Nat.sub_zero] at hC
    rw [hC]
    clear hC
    go_wp2
    go_ret
    exact ⟨rfl, hb1⟩
  · by_cases hni : cap1 = i
    · subst hni
      obtain rfl : k = 0 := by omega
      have hrow : ByteRow w1 (some ⟨B, 0, none⟩) 0 (fun k => D (cap1 + k)) := fun i hi => by omega
      go_wp2_with fail
      refine (zznum_any (some ⟨B, 0, none⟩) 0 0 0 _ w1 (by omega) (by omega) hrow).mono ?_
      rintro e w' ⟨rfl, hw⟩
      have hw := hw.symm
      subst hw
      have hC := HC.out
      rw [Nat.sub_self] at hC
      rw [hC]
      clear hC
      go_wp2
      go_ret
      exact ⟨rfl, hb1⟩
    · have hrow := HCL.out.2.back (i := i)
      go_wp2_with fail
      refine (zznum_any (some ⟨B, i, none⟩) (cap1 - i) (cap1 - i) 0 _ w1 (by omega) (by omega) hrow).mono ?_
      rintro e w' ⟨rfl, hw⟩
      have hw := hw.symm
      subst hw
      rw [HC.out]
      clear hrow
      go_wp2
      go_ret
      exact ⟨rfl, hb1⟩

end Go.Proofs.Qxb6604268a
