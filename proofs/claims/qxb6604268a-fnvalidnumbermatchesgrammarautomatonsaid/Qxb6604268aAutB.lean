/-
  Seat b6604268a: 'validNumber is the automaton'.
-/
import Derived.Test.Qxb6604268aAutA
namespace Go.Proofs.Qxb6604268a
open Go.RowKit

/-! ### FnValidNumberMatchesGrammarAutomaton -/
set_option maxHeartbeats 1000000 in
theorem aut_out (a : Option Addr) (n cap : Nat) (i : Int) (w : World) (hn : n ≤ maxLen) (h : ¬ (n ≤ 1048576 ∧ 0 ≤ i ∧ i ≤ n)) :
    Calls Try.prog 4 #[.slice a n cap, .int .i64 i] w fun e w' => e = .returned (.bool true) ∧ Below w.heap.size w w' := by
  have hz := zzb11 a n cap i w hn
  by_cases h1 : n ≤ 1048576
  · rw [decide_eq_true h1] at hz
    have HZ : Hid (Calls Try.prog 11 #[.slice a n cap, .int .i64 i] w fun e w' => e = .returned (.bool true) ∧ w' = w) := hz
    clear hz
    have h2 : i < 0 ∨ (n : Int) < i := by omega
    clear h hn
    by_cases h3 : i < 0
    · clear h2
      go_enter Try.func4, Try.ntmps4
      go_wp2_with fail
      refine HZ.out.mono ?_
      rintro e w' ⟨rfl, rfl⟩
      go_wp2
      go_ret
      exact ⟨rfl, Below.refl _ _⟩
    · have h4 : (n : Int) < i := by omega
      clear h2
      go_enter Try.func4, Try.ntmps4
      go_wp2_with fail
      refine HZ.out.mono ?_
      rintro e w' ⟨rfl, rfl⟩
      go_wp2
      go_ret
      exact ⟨rfl, Below.refl _ _⟩
  · rw [decide_eq_false h1] at hz
    have HZ : Hid (Calls Try.prog 11 #[.slice a n cap, .int .i64 i] w fun e w' => e = .returned (.bool false) ∧ w' = w) := hz
    clear hz
    go_enter Try.func4, Try.ntmps4
    go_wp2_with fail
    refine HZ.out.mono ?_
    rintro e w' ⟨rfl, rfl⟩
    go_wp2
    go_ret
    exact ⟨rfl, Below.refl _ _⟩

set_option maxHeartbeats 1000000 in
theorem aut_main (a : Option Addr) (n cap i : Nat) (D : Nat → Int) (w : World) (hn : n ≤ 1048576) (hi : i ≤ n) (hr : ByteRow w a n D) (hnil : a = none → n = 0) :
    Calls Try.prog 4 #[.slice a n cap, .int .i64 i] w fun e w' => e = .returned (.bool true) ∧ Below w.heap.size w w' := by
  have hz := zzb11 a n cap i w (by unfold maxLen; omega)
  rw [decide_eq_true hn] at hz
  have HZ : Hid (Calls Try.prog 11 #[.slice a n cap, .int .i64 i] w fun e w' => e = .returned (.bool true) ∧ w' = w) := hz
  have HR : Hid (ByteRow w a n D) := hr
  have HN : Hid (a = none → n = 0) := hnil
  clear hz hr hnil
  have hin := vn_in (D := D) hi
  have ho := out0 D n i hi
  obtain ⟨V, hV⟩ : ∃ V, V = vn D n i := ⟨_, rfl⟩
  rw [← hV] at ho hin
  obtain ⟨j, ok⟩ := V
  have HV : Hid (vn D n i = (j, ok)) := hV.symm
  have HO : Hid (out D n 0 i = (j, ok)) := ho
  clear hV ho hin
  go_enter Try.func4, Try.ntmps4
  go_wp2_with fail
  refine HZ.out.mono ?_
  rintro e w' ⟨rfl, hw⟩
  have hw := hw.symm
  subst hw
  clear HZ
  go_wp2_with fail
  refine (clone_any a n cap D w hn HR.out HN.out).mono ?_
  rintro e w1 ⟨a1, cap1, rfl, hcl, hb1⟩
  have HCL : Hid (Cloned w1 a1 n cap1 D) := hcl
  clear hcl
  go_wp2_with fail
  refine (zznum_any a1 n cap1 i D w1 hn hi HCL.out.2).mono ?_
  rintro e w' ⟨rfl, hw⟩
  have hw := hw.symm
  subst hw
  rw [HV.out]
  go_wp2_with fail
  refine (automodel_any a1 n cap1 i D w1 hn hi HCL.out.2).mono ?_
  rintro e w' ⟨rfl, hw⟩
  have hw := hw.symm
  subst hw
  rw [HO.out]
  go_wp2
  go_ret
  exact ⟨rfl, hb1⟩

end Go.Proofs.Qxb6604268a
