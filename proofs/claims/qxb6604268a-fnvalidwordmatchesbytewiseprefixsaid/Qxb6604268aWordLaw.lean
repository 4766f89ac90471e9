/-
  Seat b6604268a: the walk of FnValidWordMatchesBytewisePrefix.
-/
import Derived.Test.Qxb6604268aJsonC
namespace Go.Proofs.Qxb6604268a
open Go.RowKit

set_option maxHeartbeats 400000 in
/-- zzBytes: some answer; where it is true both lengths are small. -/
theorem zzb7 (a : Option Addr) (n cap : Nat) (i : Int) (s : ByteArray) (w : World) (_hn : n ≤ maxLen) (_hs : s.size ≤ maxLen) :
    Calls Try.prog 7 #[.slice a n cap, .int .i64 i, .string s] w fun e w' => e = .returned (.bool (decide (n + s.size ≤ 1048576))) ∧ w' = w := by
  unfold maxLen at *
  by_cases h1 : n ≤ 1048576
  · by_cases h2 : s.size ≤ 1048576
    · by_cases h3 : n + s.size ≤ 1048576
      · rw [decide_eq_true h3]
        go_enter Try.func7, Try.ntmps7
        go_wp2
        go_ret
        exact ⟨rfl, rfl⟩
      · rw [decide_eq_false h3]
        go_enter Try.func7, Try.ntmps7
        go_wp2
        go_ret
        exact ⟨rfl, rfl⟩
    · rw [decide_eq_false (by omega)]
      go_enter Try.func7, Try.ntmps7
      go_wp2
      go_ret
      exact ⟨rfl, rfl⟩
  · rw [decide_eq_false (by omega)]
    go_enter Try.func7, Try.ntmps7
    go_wp2
    go_ret
    exact ⟨rfl, rfl⟩

set_option maxHeartbeats 1000000 in
theorem wordlaw_long (a : Option Addr) (n cap : Nat) (i : Int) (s : ByteArray) (w : World) (hn : n ≤ maxLen) (hs : s.size ≤ maxLen) (h : ¬ n + s.size ≤ 1048576) :
    Calls Try.prog 3 #[.slice a n cap, .int .i64 i, .string s] w fun e w' => e = .returned (.bool true) ∧ Below w.heap.size w w' := by
  have hz := zzb7 a n cap i s w hn hs
  rw [decide_eq_false h] at hz
  have HZ : Hid (Calls Try.prog 7 #[.slice a n cap, .int .i64 i, .string s] w fun e w' => e = .returned (.bool false) ∧ w' = w) := hz
  clear hz
  go_enter Try.func3, Try.ntmps3
  go_wp2_with fail
  refine HZ.out.mono ?_
  rintro e w' ⟨rfl, rfl⟩
  go_wp2
  go_ret
  exact ⟨rfl, Below.refl _ _⟩

set_option maxHeartbeats 1000000 in
theorem wordlaw_neg (a : Option Addr) (n cap : Nat) (i : Int) (s : ByteArray) (w : World) (hn : n ≤ maxLen) (hs : s.size ≤ maxLen) (h : n + s.size ≤ 1048576) (_hi : i < 0) :
    Calls Try.prog 3 #[.slice a n cap, .int .i64 i, .string s] w fun e w' => e = .returned (.bool true) ∧ Below w.heap.size w w' := by
  have hz := zzb7 a n cap i s w hn hs
  rw [decide_eq_true h] at hz
  have HZ : Hid (Calls Try.prog 7 #[.slice a n cap, .int .i64 i, .string s] w fun e w' => e = .returned (.bool true) ∧ w' = w) := hz
  clear hz hn hs
  have h1 : ¬ (1048576 : Int) < (n : Int) := by omega
  have h2 : ¬ (1048576 : Int) < (s.size : Int) := by omega
  have h3 : ¬ (1048576 : Int) < (n : Int) + (s.size : Int) := by omega
  go_enter Try.func3, Try.ntmps3
  go_wp2_with fail
  refine HZ.out.mono ?_
  rintro e w' ⟨rfl, rfl⟩
  go_wp2
  go_ret
  exact ⟨rfl, Below.refl _ _⟩

set_option maxHeartbeats 1000000 in
theorem wordlaw_main (a : Option Addr) (n cap : Nat) (i : Nat) (s : ByteArray) (D : Nat → Int) (w : World) (h : n + s.size ≤ 1048576) (hi : i ≤ 9223372036854775807) (hr : ByteRow w a n D) (hnil : a = none → n = 0) :
    Calls Try.prog 3 #[.slice a n cap, .int .i64 i, .string s] w fun e w' => e = .returned (.bool true) ∧ Below w.heap.size w w' := by
  have hz := zzb7 a n cap i s w (by unfold maxLen; omega) (by unfold maxLen; omega)
  rw [decide_eq_true h] at hz
  have HZ : Hid (Calls Try.prog 7 #[.slice a n cap, .int .i64 i, .string s] w fun e w' => e = .returned (.bool true) ∧ w' = w) := hz
  have HR : Hid (ByteRow w a n D) := hr
  have HN : Hid (a = none → n = 0) := hnil
  obtain ⟨x, b, hx⟩ := ans_form D n i s
  have HX : Hid (ans D n i s = .tuple #[.int .i64 x, .bool b]) := hx
  clear hz hr hnil hx
  have h1 : ¬ (1048576 : Int) < (n : Int) := by omega
  have h2 : ¬ (1048576 : Int) < (s.size : Int) := by omega
  have h3 : ¬ (1048576 : Int) < (n : Int) + (s.size : Int) := by omega
  go_enter Try.func3, Try.ntmps3
  go_wp2_with fail
  refine HZ.out.mono ?_
  rintro e w' ⟨rfl, hw⟩
  have hw := hw.symm
  subst hw
  clear HZ
  go_wp2_with fail
  refine (clone_any a n cap D w (by omega) HR.out HN.out).mono ?_
  rintro e w1 ⟨a1, cap1, rfl, hcl, hb1⟩
  have HCL : Hid (Cloned w1 a1 n cap1 D) := hcl
  clear hcl
  go_wp2_with fail
  refine (zzword_any a1 n cap1 i D s w1 (by omega) (by omega) hi HCL.out).mono ?_
  rintro e w' ⟨rfl, hw⟩
  have hw := hw.symm
  subst hw
  rw [HX.out]
  go_wp2_with fail
  refine (wmodel_any a1 n cap1 i D s w1 (by omega) (by omega) HCL.out.2).mono ?_
  rintro e w2 ⟨rfl, hb2⟩
  rw [HX.out]
  have hb := hb1.trans (hb2.mono hb1.size)
  clear hb2
  go_wp2
  go_ret
  exact ⟨rfl, hb⟩

end Go.Proofs.Qxb6604268a
