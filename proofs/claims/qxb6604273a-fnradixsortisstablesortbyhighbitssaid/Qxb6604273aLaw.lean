/-
  Seat b6604273a: the law's walk.
-/
import Derived.Test.Qxb6604273aWalkC
import Derived.Test.Qxb6604273aWalkE
namespace Go.Proofs.Qxb6604273a
open Go.RowKit

set_option maxRecDepth 100000 in
set_option maxHeartbeats 1000000 in
theorem radix_nil (lo : Nat) (w : World) : Calls Try.prog 10 #[.slice none 0 0, .int .u64 lo] w fun e w' => e = .returned (.slice none 0 0) ∧ Below w.heap.size w w' := by
  have hmk : ∀ w : World, (Instr.makeSlice 22 (.int .i64 0) (.int .i64 0)).run Try.prog w = .ok (.slice (some ⟨w.heap.size, 0, none⟩) 0 0) (w.alloc (.cells (madeCells #[.int .u64 0] 0) 28)) :=
    run_make_row' (P := Try.prog) 22 28 (.int .u64 0) 8 Try.underlying22 Try.info28 rfl .i64 .i64 0 (by omega) (by omega)
  by_cases hs : lo < 64
  · have hzb : ((0 : Int) / 2 ^ lo != 0) = false := by simp
    go_enter Try.func10, Try.ntmps10
    go_wp2_with fail
    refine wp_loop_rounds 1 ?_
    rw [rounds_succ]
    go_wp2_with fail
    refine wp_loop_rounds 1 ?_
    rw [rounds_succ]
    go_wp2
    go_ret
    exact ⟨rfl, (Below.refl _ _).alloc (Nat.le_refl _) _⟩
  · go_enter Try.func10, Try.ntmps10
    go_wp2_with fail
    refine wp_loop_rounds 1 ?_
    rw [rounds_succ]
    go_wp2_with fail
    refine wp_loop_rounds 1 ?_
    rw [rounds_succ]
    go_wp2
    go_ret
    exact ⟨rfl, (Below.refl _ _).alloc (Nat.le_refl _) _⟩

theorem zzradix_row (B g0 n lo : Nat) (K : List Nat) (w : World) (hKn : K.length = n) (hn : n ≤ 131072) (hlo : lo ≤ 18446744073709551615) (hr : RowAt w g0 K) (hB : B ≤ g0) (hK : ∀ x ∈ K, x < 2 ^ 64) :
    Calls Try.prog 7 #[.slice (some ⟨g0, 0, none⟩) n n, .int .u64 lo] w fun e w' => ∃ g A, e = .returned (.slice (some ⟨g, 0, none⟩) n n) ∧ RowAt w' g A ∧ A.length = n ∧ Stable (hi lo) K A ∧ Below B w w' := by
  have hc := radix_any B g0 n lo K w hKn hn hlo hr hB hK
  have HC : Hid (Calls Try.prog 10 #[.slice (some ⟨g0, 0, none⟩) n n, .int .u64 lo] w fun e w' => ∃ g A, e = .returned (.slice (some ⟨g, 0, none⟩) n n) ∧ RowAt w' g A ∧ A.length = n ∧ Stable (hi lo) K A ∧ Below B w w') := hc
  clear hc hr hK hKn
  go_enter Try.func7, Try.ntmps7
  go_wp2_with fail
  refine HC.out.mono ?_
  rintro e w' ⟨g, A, rfl, h1, h2, h3, h4⟩
  have H2 : Hid (A.length = n) := h2
  clear h2
  go_wp2
  go_ret
  exact ⟨g, A, rfl, h1, H2.out, h3, h4⟩

theorem zzradix_nil (lo : Nat) (w : World) : Calls Try.prog 7 #[.slice none 0 0, .int .u64 lo] w fun e w' => e = .returned (.slice none 0 0) ∧ Below w.heap.size w w' := by
  have HC : Hid (Calls Try.prog 10 #[.slice none 0 0, .int .u64 lo] w fun e w' => e = .returned (.slice none 0 0) ∧ Below w.heap.size w w') := radix_nil lo w
  go_enter Try.func7, Try.ntmps7
  go_wp2_with fail
  refine HC.out.mono ?_
  rintro e w' ⟨rfl, h4⟩
  go_wp2
  go_ret
  exact ⟨rfl, h4⟩

set_option maxHeartbeats 1000000 in
theorem law_out (a : Option Addr) (n cap : Nat) (lo : Int) (w : World) (hn : n ≤ maxLen) (h : ¬ n ≤ 131072) :
    Calls Try.prog 3 #[.slice a n cap, .int .u64 lo] w fun e w' => e = .returned (.bool true) ∧ Below w.heap.size w w' := by
  have hz := zzb_any a n cap lo w hn
  by_cases h1 : n ≤ 1048576
  · rw [decide_eq_true h1] at hz
    have HZ : Hid (Calls Try.prog 4 #[.slice a n cap, .int .u64 lo] w fun e w' => e = .returned (.bool true) ∧ w' = w) := hz
    clear hz hn
    go_enter Try.func3, Try.ntmps3
    go_wp2_with fail
    refine HZ.out.mono ?_
    rintro e w' ⟨rfl, rfl⟩
    go_wp2
    go_ret
    exact ⟨rfl, Below.refl _ _⟩
  · rw [decide_eq_false h1] at hz
    have HZ : Hid (Calls Try.prog 4 #[.slice a n cap, .int .u64 lo] w fun e w' => e = .returned (.bool false) ∧ w' = w) := hz
    clear hz
    go_enter Try.func3, Try.ntmps3
    go_wp2_with fail
    refine HZ.out.mono ?_
    rintro e w' ⟨rfl, rfl⟩
    go_wp2
    go_ret
    exact ⟨rfl, Below.refl _ _⟩

set_option maxHeartbeats 1000000 in
theorem law_main (a : Option Addr) (n cap lo : Nat) (K : List Nat) (w : World) (hKn : K.length = n) (hn : n ≤ 131072) (hlo : lo ≤ 18446744073709551615) (hr : WRow w a K) (hnil : a = none → n = 0) (hK : ∀ x ∈ K, x < 2 ^ 64) :
    Calls Try.prog 3 #[.slice a n cap, .int .u64 lo] w fun e w' => e = .returned (.bool true) ∧ Below w.heap.size w w' := by
  have hz := zzb_any a n cap lo w (by unfold maxLen; omega)
  rw [decide_eq_true (by omega)] at hz
  have HZ : Hid (Calls Try.prog 4 #[.slice a n cap, .int .u64 lo] w fun e w' => e = .returned (.bool true) ∧ w' = w) := hz
  have HR : Hid (WRow w a K) := hr
  have HN : Hid (a = none → n = 0) := hnil
  have HKn : Hid (K.length = n) := hKn
  have HK : Hid (∀ x ∈ K, x < 2 ^ 64) := hK
  have HLO : Hid (lo ≤ 18446744073709551615) := hlo
  clear hz hr hnil hKn hK hlo
  have hle : ¬ (131072 : Int) < (n : Int) := by omega
  go_enter Try.func3, Try.ntmps3
  go_wp2_with fail
  refine HZ.out.mono ?_
  rintro e w' ⟨rfl, hw⟩
  have hw := hw.symm
  subst hw
  clear HZ
  go_wp2_with fail
  refine (clone_any a n cap K w HKn.out hn HR.out HN.out).mono ?_
  rintro e w1 ⟨a1, cap1, rfl, hO, hb1⟩
  have HO : Hid (Own w1 w.heap.size a1 cap1 K) := hO
  clear hO
  go_wp2_with fail
  refine (stable_any a1 n cap1 lo K w1 HKn.out hn HO.out.wrow HK.out).mono ?_
  rintro e w2 ⟨gw, Aw, rfl, hRw, hAw, hSw, hb2⟩
  have HAw : Hid (Aw.length = n) := hAw
  clear hAw
  have hnil1 : a1 = none → n = 0 := fun e => by
    rcases HO.out with ⟨_, h, _⟩ | ⟨g, h, _⟩
    · rw [← HKn.out, h]; rfl
    · rw [h] at e; cases e
  have HN1 : Hid (a1 = none → n = 0) := hnil1
  clear hnil1
  go_wp2_with fail
  refine (clone_any a1 n cap1 K w2 HKn.out hn (HO.out.wrow.later hb2) HN1.out).mono ?_
  rintro e w3 ⟨a3, cap3, rfl, hO3, hb3⟩
  have hRw3 : RowAt w3 gw Aw := hRw.later hb3 hRw.lt
  have hgw : gw < w2.heap.size := hRw.lt
  have hb13 : Below w.heap.size w w3 := (hb1.trans (hb2.mono hb1.size)).trans (hb3.mono (Nat.le_trans hb1.size hb2.size))
  rcases hO3 with ⟨rfl, hK0, rfl⟩ | ⟨g3, rfl, hc3, hR3, hB3⟩
  · have hn0 : n = 0 := by rw [← HKn.out, hK0]; rfl
    subst hn0
    have hAw0 : Aw = [] := List.length_eq_zero_iff.1 HAw.out
    subst hAw0
    clear hK0
    go_wp2_with fail
    refine (zzradix_nil lo w3).mono ?_
    rintro e w4 ⟨rfl, hb4⟩
    go_wp2_with fail
    refine (same_any none (some ⟨gw, 0, none⟩) 0 0 0 [] w4 rfl (by omega) (fun i hi => by simp at hi) (fun i hi => by simp at hi)).mono ?_
    rintro e w5 ⟨rfl, hb5⟩
    have hb := (hb13.trans (hb4.mono hb13.size)).trans (hb5.mono (Nat.le_trans hb13.size hb4.size))
    clear hb4 hb5
    go_wp2
    go_ret
    exact ⟨rfl, hb⟩
  · have hc3' : cap3 = n := hc3.trans HKn.out
    subst hc3'
    clear hc3
    go_wp2_with fail
    refine (zzradix_row w2.heap.size g3 cap3 lo K w3 HKn.out hn HLO.out hR3 hB3 HK.out).mono ?_
    rintro e w4 ⟨gr, Ar, rfl, hRr, hAr, hSr, hb4⟩
    have hE : Ar = Aw := stable_unique hSr hSw
    subst hE
    have hRw4 : RowAt w4 gw Ar := hRw3.later hb4 hgw
    clear hAr
    go_wp2_with fail
    refine (same_any (some ⟨gr, 0, none⟩) (some ⟨gw, 0, none⟩) cap3 cap3 cap3 Ar w4 HAw.out hn hRr.wrow hRw4.wrow).mono ?_
    rintro e w5 ⟨rfl, hb5⟩
    have hs2 : w.heap.size ≤ w2.heap.size := Nat.le_trans hb1.size hb2.size
    have hb := (hb13.trans (hb4.mono hs2)).trans (hb5.mono (Nat.le_trans hb13.size hb4.size))
    clear hb4 hb5
    go_wp2
    go_ret
    exact ⟨rfl, hb⟩

end Go.Proofs.Qxb6604273a
