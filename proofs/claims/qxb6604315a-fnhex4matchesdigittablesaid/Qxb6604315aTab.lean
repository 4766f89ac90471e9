/-
  Seat b6604315a: cloneBytes, zzBytes, hex4Model.
-/
import Derived.Test.Qxb6604315aBack
import Derived.Deep.OwnRows
import Derived.Lib.SliceRun
namespace Go.Proofs.Qxb6604315a
open Go.RowKit

theorem Try.info5 : (Try.prog.info? 5).map (fun i => (i.zero, i.size, i.bytes)) = some (some (.int .u8 0), 1, 1) := by kernel_rfl

theorem ByteRow.later {w w' : World} {a : Option Addr} {n : Nat} {D : Nat → Int} (h : ByteRow w a n D) (hb : Below w.heap.size w w') : ByteRow w' a n D := fun i hi => by
  obtain ⟨b, off, rfl, hl, hc, hd⟩ := h i hi
  exact ⟨b, off, rfl, Nat.lt_of_lt_of_le hl hb.size, by rw [hb.cell (p := ⟨b, off + i, none⟩) hl]; exact hc, hd⟩

/-- What cloneBytes hands back: nil, or a new row. -/
def Cloned (w : World) (a : Option Addr) (n cap : Nat) (D : Nat → Int) : Prop :=
  ((a = none ∧ n = 0 ∧ cap = 0) ∨ (∃ B, a = some ⟨B, 0, none⟩ ∧ cap = n)) ∧ ByteRow w a n D

/-- The new row behind k rounds. -/
def part (D : Nat → Int) (k : Nat) (i : Nat) : Value := .int .u8 (if i < k then D i else 0)

theorem part_step (D : Nat → Int) (k : Nat) : (fun j => if j = k then Value.int .u8 (D k) else part D k j) = part D (k + 1) := by
  funext j
  unfold part
  by_cases h : j = k
  · subst h; simp
  · rw [if_neg h]
    by_cases h2 : j < k
    · rw [if_pos h2, if_pos (by omega)]
    · rw [if_neg h2, if_neg (by omega)]

set_option maxHeartbeats 400000 in
theorem clone_nil (cap : Nat) (D : Nat → Int) (w : World) : Calls Try.prog 6 #[.slice none 0 cap] w fun e w' => ∃ a' cap', e = .returned (.slice a' 0 cap') ∧ Cloned w' a' 0 cap' D ∧ Below w.heap.size w w' := by
  have hq := fun w : World => Lib.run_eql_slice_nil (P := Try.prog) w 22 5 none 0 cap 0 0 Try.underlying22
  go_enter Try.func6, Try.ntmps6
  go_wp2
  go_ret
  exact ⟨_, _, rfl, ⟨.inl ⟨rfl, rfl, rfl⟩, fun i hi => by omega⟩, Below.refl _ _⟩

set_option maxHeartbeats 400000 in
theorem clone_some (x : Addr) (n cap : Nat) (D : Nat → Int) (w : World) (hn : n ≤ 1048576) (hr : ByteRow w (some x) n D) :
    Calls Try.prog 6 #[.slice (some x) n cap] w fun e w' => ∃ a' cap', e = .returned (.slice a' n cap') ∧ Cloned w' a' n cap' D ∧ Below w.heap.size w w' := by
  have hq := fun w : World => Lib.run_eql_slice_nil (P := Try.prog) w 22 5 (some x) n cap 0 0 Try.underlying22
  have hmk := run_make_row' (P := Try.prog) 22 5 (.int .u8 0) 1 Try.underlying22 Try.info5 rfl .i64 .i64 n (by omega) (by omega)
  go_enter Try.func6, Try.ntmps6
  go_wp2
  go_loopw [4] (fun i wr => ∃ k : Nat, k ≤ n ∧ i = .int .i64 k ∧ wr.rowIs w.heap.size 5 n (part D k) ∧ Below w.heap.size w wr) (fun i _ => n - (intOf i).toNat)
  case atStart =>
    exact ⟨0, Nat.zero_le _, rfl, (World.rowIs_made w (.int .u8 0) n 5).congr (fun i hi => by simp [part]), (Below.refl _ _).alloc (Nat.le_refl _) _⟩
  case round =>
    obtain ⟨k, hk, rfl, hrow, hb⟩ := hrel
    by_cases hlt : k < n
    · obtain ⟨b, off, hx, hl, hc, hd⟩ := (hr k hlt)
      have hcr := (hb.cell (p := ⟨b, off + k, none⟩) hl).trans hc
      have hcd := hrow.cell hlt
      have hfd := hrow.frozen k
      simp only [Option.some.injEq] at hx
      subst hx
      go_wp2
      go_roundw
      case rel => exact ⟨k + 1, by omega, by go_num, by rw [← part_step]; exact hrow.set k _, hb.setCell (Nat.le_refl _) _⟩
      case measure => simp [intOf]; omega
    · obtain rfl : k = n := by omega
      go_wp2
      go_ret
      refine ⟨_, _, rfl, ⟨.inr ⟨_, rfl, rfl⟩, fun i hi => ⟨_, _, rfl, hrow.lt, ?_, ?_⟩⟩, hb⟩
      · rw [Nat.zero_add, hrow.cell hi]; simp [part, hi]
      · obtain ⟨_, _, _, _, _, h⟩ := hr i hi; exact h

theorem clone_any (a : Option Addr) (n cap : Nat) (D : Nat → Int) (w : World) (hn : n ≤ 1048576) (hr : ByteRow w a n D) (hnil : a = none → n = 0) :
    Calls Try.prog 6 #[.slice a n cap] w fun e w' => ∃ a' cap', e = .returned (.slice a' n cap') ∧ Cloned w' a' n cap' D ∧ Below w.heap.size w w' := by
  cases a with
  | none => obtain rfl := hnil rfl; exact clone_nil cap D w
  | some x => exact clone_some x n cap D w hn hr


theorem zzb_any (a : Option Addr) (n cap : Nat) (w : World) (_hn : n ≤ maxLen) :
    Calls Try.prog 5 #[.slice a n cap] w fun e w' => e = .returned (.bool (decide (n ≤ 1048576))) ∧ w' = w := by
  unfold maxLen at *
  by_cases h1 : n ≤ 1048576
  · rw [decide_eq_true h1]
    go_enter Try.func5, Try.ntmps5
    go_wp2
    go_ret
    exact ⟨rfl, rfl⟩
  · rw [decide_eq_false h1]
    go_enter Try.func5, Try.ntmps5
    go_wp2
    go_ret
    exact ⟨rfl, rfl⟩

/-- The place weights. -/
def wt (k : Nat) : Int := if k = 0 then 4096 else if k = 1 then 256 else if k = 2 then 16 else if k = 3 then 1 else 0
/-- hex4Model's sum. -/
def mval (D : Nat → Int) : Nat → Int
  | 0 => 0
  | k + 1 => mval D k + dv (D k) * wt k

theorem mval_four (D : Nat → Int) : mval D 4 = val D 4 := by
  simp [mval, val, wt]
  omega

theorem mval_bd {D : Nat → Int} {k : Nat} (hk : k ≤ 4) (h : Good D k) : 0 ≤ mval D k ∧ mval D k ≤ 65535 := by
  have r := fun j => (dv_range (D j)).2
  have r0 := r 0
  have r1 := r 1
  have r2 := r 2
  have r3 := r 3
  have h4 : k = 0 ∨ k = 1 ∨ k = 2 ∨ k = 3 ∨ k = 4 := by omega
  rcases h4 with rfl | rfl | rfl | rfl | rfl
  · simp [mval]
  · have := h 0 (by omega); simp [mval, wt]; omega
  · have := h 0 (by omega); have := h 1 (by omega); simp [mval, wt]; omega
  · have := h 0 (by omega); have := h 1 (by omega); have := h 2 (by omega); simp [mval, wt]; omega
  · have := h 0 (by omega); have := h 1 (by omega); have := h 2 (by omega); have := h 3 (by omega); simp [mval, wt]; omega

theorem i32_eq {a b : Int} (h : a = b) : Value.int .i32 a = .int .i32 b := by rw [h]

set_option maxHeartbeats 2000000 in
theorem model_any (a : Option Addr) (n cap : Nat) (D : Nat → Int) (r : Int) (w : World) (hn : 4 ≤ n) (hn2 : n ≤ 1048576) (hr : ByteRow w a n D) (hA : Ans D r) :
    Calls Try.prog 8 #[.slice a n cap] w fun e w' => e = .returned (.int .i32 r) ∧ w' = w := by
  have HA : Hid (Ans D r) := hA
  have HR : Hid (ByteRow w a n D) := hr
  clear hA hr
  go_enter Try.func8, Try.ntmps8
  go_wp2
  go_loop [3, 4, 5] (fun v u i => ∃ k : Nat, k ≤ 4 ∧ i = .int .i64 k ∧ v = .int .i32 (mval D k) ∧ u = .int .i32 (wt k) ∧ Hid (Good D k)) (fun _ _ i => 4 - (intOf i).toNat)
  case atStart => exact ⟨0, by omega, rfl, rfl, rfl, fun j hj => by omega⟩
  case round =>
    obtain ⟨k, hk, rfl, rfl, rfl, HG⟩ := hrel
    by_cases hlt : k < 4
    · obtain ⟨b, off, rfl, _, hcell, hd0, hd1⟩ := HR.out k (by omega)
      obtain ⟨hv0, hv1⟩ := mval_bd hk HG.out
      have HD : Hid (Calls Try.prog 10 #[.int .u8 (D k)] w fun e w' => e = .returned (.int .i64 (dv (D k))) ∧ w' = w) := digit_any (D k) _ w rfl
      have HV : Hid (mval D (k + 1) = mval D k + dv (D k) * wt k) := rfl
      have HGN : Hid (0 ≤ dv (D k) → Good D (k + 1)) := good_next HG.out
      have HB : Hid (dv (D k) < 0 → r = -1) := HA.out.2 k hlt
      obtain ⟨g0, g1⟩ := dv_range (D k)
      clear HA HR HG
      have hW : (wt k = 4096 ∧ wt (k + 1) = 256) ∨ (wt k = 256 ∧ wt (k + 1) = 16) ∨ (wt k = 16 ∧ wt (k + 1) = 1) ∨ (wt k = 1 ∧ wt (k + 1) = 0) := by
        have h4 : k = 0 ∨ k = 1 ∨ k = 2 ∨ k = 3 := by omega
        rcases h4 with rfl | rfl | rfl | rfl <;> decide
      generalize dv (D k) = d at HD HV HGN HB g0 g1
      generalize D k = c at hcell hd0 hd1 HD
      generalize mval D k = v at hv0 hv1 HV ⊢
      by_cases hneg : d < 0
      · have HE : Hid (r = -1) := HB.out hneg
        clear HV HGN HB hW
        generalize wt k = u
        go_wp2_with (first | (go_at_call 10; refine HD.out.mono ?_; rintro e w' ⟨rfl, rfl⟩))
        go_ret
        exact ⟨ret_i32 (by rw [HE.out]), rfl⟩
      · have HG2 : Hid (Good D (k + 1)) := HGN.out (by omega)
        have hpos : 0 ≤ d := by omega
        clear HGN HB
        rcases hW with ⟨hw1, hw2⟩ | ⟨hw1, hw2⟩ | ⟨hw1, hw2⟩ | ⟨hw1, hw2⟩
        all_goals
          rw [hw1] at HV ⊢
          have HW2 := hide hw2
          clear hw1 hw2
          go_wp2_with (first | (go_at_call 10; refine HD.out.mono ?_; rintro e w' ⟨rfl, rfl⟩))
          go_round
          case rel => exact ⟨k + 1, by omega, by go_num, i32_eq (by have h := HV.out; omega), by rw [HW2.out], HG2⟩
          case measure => simp [intOf]; omega
    · obtain rfl : 4 = k := by omega
      have HE : Hid (r = mval D 4) := by rw [mval_four]; exact HA.out.1 HG.out
      clear HA HR HG
      go_wp2
      go_ret
      exact ⟨ret_i32 (by rw [HE.out]), rfl⟩

/-- What both functions answer. -/
def ansOf (D : Nat → Int) : Int := if 0 ≤ dv (D 0) ∧ 0 ≤ dv (D 1) ∧ 0 ≤ dv (D 2) ∧ 0 ≤ dv (D 3) then val D 4 else -1

theorem ans_of (D : Nat → Int) : Ans D (ansOf D) := by
  refine ⟨fun h => ?_, fun k hk hneg => ?_⟩
  · unfold ansOf
    rw [if_pos ⟨h 0 (by omega), h 1 (by omega), h 2 (by omega), h 3 (by omega)⟩]
  · unfold ansOf
    have h : k = 0 ∨ k = 1 ∨ k = 2 ∨ k = 3 := by omega
    rcases h with rfl | rfl | rfl | rfl
    all_goals rw [if_neg (by omega)]

set_option maxHeartbeats 1000000 in
theorem tab_out (a : Option Addr) (n cap : Nat) (w : World) (hn : n ≤ maxLen) (h : ¬ (n ≤ 1048576 ∧ 4 ≤ n)) :
    Calls Try.prog 3 #[.slice a n cap] w fun e w' => e = .returned (.bool true) ∧ Below w.heap.size w w' := by
  have hz := zzb_any a n cap w hn
  by_cases h1 : n ≤ 1048576
  · rw [decide_eq_true h1] at hz
    have HZ : Hid (Calls Try.prog 5 #[.slice a n cap] w fun e w' => e = .returned (.bool true) ∧ w' = w) := hz
    have h2 : n < 4 := by omega
    clear hz hn h
    go_enter Try.func3, Try.ntmps3
    go_wp2_with fail
    refine HZ.out.mono ?_
    rintro e w' ⟨rfl, rfl⟩
    go_wp2
    go_ret
    exact ⟨rfl, Below.refl _ _⟩
  · rw [decide_eq_false h1] at hz
    have HZ : Hid (Calls Try.prog 5 #[.slice a n cap] w fun e w' => e = .returned (.bool false) ∧ w' = w) := hz
    clear hz
    go_enter Try.func3, Try.ntmps3
    go_wp2_with fail
    refine HZ.out.mono ?_
    rintro e w' ⟨rfl, rfl⟩
    go_wp2
    go_ret
    exact ⟨rfl, Below.refl _ _⟩

set_option maxHeartbeats 1000000 in
theorem tab_main (a : Option Addr) (n cap : Nat) (D : Nat → Int) (w : World) (hn : n ≤ 1048576) (h4 : 4 ≤ n) (hr : ByteRow w a n D) (hnil : a = none → n = 0) :
    Calls Try.prog 3 #[.slice a n cap] w fun e w' => e = .returned (.bool true) ∧ Below w.heap.size w w' := by
  have hz := zzb_any a n cap w (by unfold maxLen; omega)
  rw [decide_eq_true hn] at hz
  have HZ : Hid (Calls Try.prog 5 #[.slice a n cap] w fun e w' => e = .returned (.bool true) ∧ w' = w) := hz
  have HR : Hid (ByteRow w a n D) := hr
  have HN : Hid (a = none → n = 0) := hnil
  have hA := ans_of D
  generalize ansOf D = r at hA
  have HA : Hid (Ans D r) := hA
  clear hz hr hnil hA
  go_enter Try.func3, Try.ntmps3
  go_wp2_with fail
  refine HZ.out.mono ?_
  rintro e w' ⟨rfl, hw⟩
  have hw := hw.symm
  subst hw
  clear HZ
  go_wp2_with fail
  refine (clone_any a n cap D w hn HR.out HN.out).mono ?_
  rintro e w1 ⟨a1, cap1, rfl, hcl, hb1⟩
  obtain ⟨hc1, hrow⟩ := hcl
  have HROW : Hid (ByteRow w1 a1 n D) := hrow
  rcases hc1 with ⟨_, h0, _⟩ | ⟨B, rfl, rfl⟩
  · omega
  clear hrow
  go_wp2_with fail
  refine (zzhex_any B 0 cap1 cap1 D r w1 h4 (Nat.le_refl _) hn HROW.out HA.out).mono ?_
  rintro e w' ⟨rfl, hw⟩
  have hw := hw.symm
  subst hw
  go_wp2_with fail
  refine (model_any (some ⟨B, 0, none⟩) cap1 cap1 D r w1 h4 hn HROW.out HA.out).mono ?_
  rintro e w' ⟨rfl, hw⟩
  have hw := hw.symm
  subst hw
  go_wp2
  go_ret
  exact ⟨rfl, hb1⟩

end Go.Proofs.Qxb6604315a
