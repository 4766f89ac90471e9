/-
  Seat b6604273a: cloneWords, hiPart, sameWords, zzBytes.
-/
import Derived.Test.Qxb6604273aRows
import Derived.Test.Qxb6604273aPlainB
import Derived.WalkKit
import Derived.Deep.OwnRows
import Derived.OpenShut
import Derived.Lib.SliceRun
import Derived.Deep.QuietTactic
import Derived.BigQuiet
namespace Go.Proofs.Qxb6604273a
open Go.RowKit

theorem Try.info28 : (Try.prog.info? 28).map (fun i => (i.zero, i.size, i.bytes)) = some (some (.int .u64 0), 1, 8) := by kernel_rfl

/-- A word as a value. -/
def wv (A : List Nat) (i : Nat) : Value := .int .u64 ((A.getD i 0 : Nat) : Int)

/-- Block g is a row of the words A. -/
def RowAt (w : World) (g : Nat) (A : List Nat) : Prop := w.rowIs g 28 A.length (wv A)

theorem RowAt.cell {w : World} {g : Nat} {A : List Nat} (h : RowAt w g A) {i : Nat} (hi : i < A.length) : w.cell? ⟨g, i, none⟩ = some (.int .u64 ((A.getD i 0 : Nat) : Int)) := World.rowIs.cell h hi
theorem RowAt.later {w w' : World} {g : Nat} {A : List Nat} (h : RowAt w g A) {B : Nat} (hb : Below B w w') (hg : g < B) : RowAt w' g A := World.rowIs.of_block h (hb.block g hg)

/-- The words A lie behind a. -/
def WRow (w : World) (a : Option Addr) (A : List Nat) : Prop :=
  ∀ i, i < A.length → ∃ b off, a = some ⟨b, off, none⟩ ∧ b < w.heap.size ∧ w.cell? ⟨b, off + i, none⟩ = some (.int .u64 ((A.getD i 0 : Nat) : Int))

theorem WRow.later {w w' : World} {a : Option Addr} {A : List Nat} (h : WRow w a A) (hb : Below w.heap.size w w') : WRow w' a A := fun i hi => by
  obtain ⟨b, off, rfl, hl, hc⟩ := h i hi
  exact ⟨b, off, rfl, Nat.lt_of_lt_of_le hl hb.size, by rw [hb.cell (p := ⟨b, off + i, none⟩) hl]; exact hc⟩

theorem RowAt.wrow {w : World} {g : Nat} {A : List Nat} (h : RowAt w g A) : WRow w (some ⟨g, 0, none⟩) A := fun i hi => ⟨g, 0, rfl, World.rowIs.lt h, by rw [Nat.zero_add]; exact h.cell hi⟩

/-- A slice of the call's own: nil, or a whole new row. -/
def Own (w : World) (B : Nat) (a : Option Addr) (cap : Nat) (A : List Nat) : Prop :=
  (a = none ∧ A = [] ∧ cap = 0) ∨ ∃ g, a = some ⟨g, 0, none⟩ ∧ cap = A.length ∧ RowAt w g A ∧ B ≤ g

theorem Own.wrow {w : World} {B : Nat} {a : Option Addr} {cap : Nat} {A : List Nat} (h : Own w B a cap A) : WRow w a A := by
  rcases h with ⟨rfl, rfl, rfl⟩ | ⟨g, rfl, _, hr, _⟩
  · exact fun i hi => by simp at hi
  · exact hr.wrow

/-- The new row behind k rounds. -/
def part (A : List Nat) (k : Nat) (i : Nat) : Value := .int .u64 (if i < k then ((A.getD i 0 : Nat) : Int) else 0)

theorem part_step (A : List Nat) (k : Nat) : (fun j => if j = k then Value.int .u64 ((A.getD k 0 : Nat) : Int) else part A k j) = part A (k + 1) := by
  funext j
  unfold part
  by_cases h : j = k
  · subst h; simp
  · rw [if_neg h]
    by_cases h2 : j < k
    · rw [if_pos h2, if_pos (by omega)]
    · rw [if_neg h2, if_neg (by omega)]

theorem part_done {w : World} {g : Nat} {A : List Nat} (h : w.rowIs g 28 A.length (part A A.length)) : RowAt w g A := World.rowIs.congr h (fun i hi => by simp [part, wv, hi])

set_option maxHeartbeats 400000 in
theorem clone_nil (cap : Nat) (w : World) : Calls Try.prog 5 #[.slice none 0 cap] w fun e w' => ∃ a' cap', e = .returned (.slice a' 0 cap') ∧ Own w' w.heap.size a' cap' [] ∧ Below w.heap.size w w' := by
  have hq := fun w : World => Lib.run_eql_slice_nil (P := Try.prog) w 22 28 none 0 cap 0 0 Try.underlying22
  go_enter Try.func5, Try.ntmps5
  go_wp2
  go_ret
  exact ⟨_, _, rfl, .inl ⟨rfl, rfl, rfl⟩, Below.refl _ _⟩

set_option maxHeartbeats 400000 in
theorem clone_some (x : Addr) (n cap : Nat) (A : List Nat) (w : World) (hA : A.length = n) (hn : n ≤ 131072) (hr : WRow w (some x) A) :
    Calls Try.prog 5 #[.slice (some x) n cap] w fun e w' => ∃ a' cap', e = .returned (.slice a' n cap') ∧ Own w' w.heap.size a' cap' A ∧ Below w.heap.size w w' := by
  have hq := fun w : World => Lib.run_eql_slice_nil (P := Try.prog) w 22 28 (some x) n cap 0 0 Try.underlying22
  have hmk := run_make_row' (P := Try.prog) 22 28 (.int .u64 0) 8 Try.underlying22 Try.info28 rfl .i64 .i64 n (by omega) (by omega)
  have HA : Hid (A.length = n) := hA
  clear hA
  go_enter Try.func5, Try.ntmps5
  go_wp2
  go_loopw [4] (fun i wr => ∃ k : Nat, k ≤ n ∧ i = .int .i64 k ∧ wr.rowIs w.heap.size 28 n (part A k) ∧ Below w.heap.size w wr) (fun i _ => n - (intOf i).toNat)
  case atStart =>
    exact ⟨0, Nat.zero_le _, rfl, (World.rowIs_made w (.int .u64 0) n 28).congr (fun i hi => by simp [part]), (Below.refl _ _).alloc (Nat.le_refl _) _⟩
  case round =>
    obtain ⟨k, hk, rfl, hrow, hb⟩ := hrel
    by_cases hlt : k < n
    · obtain ⟨b, off, hx, hl, hc⟩ := hr k (by rw [HA.out]; exact hlt)
      have hcr := (hb.cell (p := ⟨b, off + k, none⟩) hl).trans hc
      have hcd := hrow.cell hlt
      have hfd := hrow.frozen k
      simp only [Option.some.injEq] at hx
      subst hx
      have HP := part_step A k
      have HP' : Hid ((fun j => if j = k then Value.int .u64 ((A.getD k 0 : Nat) : Int) else part A k j) = part A (k + 1)) := HP
      clear HP hc hr
      generalize ((A.getD k 0 : Nat) : Int) = c at hcr HP'
      go_wp2
      go_roundw
      case rel => exact ⟨k + 1, by omega, by go_num, by rw [← HP'.out]; exact hrow.set k _, hb.setCell (Nat.le_refl _) _⟩
      case measure => simp [intOf]; omega
    · obtain rfl : k = n := by omega
      go_wp2
      go_ret
      have hA := HA.out
      subst hA
      exact ⟨_, _, rfl, .inr ⟨_, rfl, rfl, part_done hrow, Nat.le_refl _⟩, hb⟩

theorem clone_any (a : Option Addr) (n cap : Nat) (A : List Nat) (w : World) (hA : A.length = n) (hn : n ≤ 131072) (hr : WRow w a A) (hnil : a = none → n = 0) :
    Calls Try.prog 5 #[.slice a n cap] w fun e w' => ∃ a' cap', e = .returned (.slice a' n cap') ∧ Own w' w.heap.size a' cap' A ∧ Below w.heap.size w w' := by
  cases a with
  | none =>
    obtain rfl := hnil rfl
    have : A = [] := List.length_eq_zero_iff.1 hA
    subst this
    exact clone_nil cap w
  | some x => exact clone_some x n cap A w hA hn hr

theorem hipart_any (k lo : Nat) (w : World) (hk : k < 2 ^ 64) :
    Calls Try.prog 9 #[.int .u64 k, .int .u64 lo] w fun e w' => e = .returned (.int .u64 ((hi lo k : Nat) : Int)) ∧ w' = w := by
  by_cases h : 64 ≤ lo
  · have e : hi lo k = 0 := by
      unfold hi
      exact Nat.div_eq_of_lt (Nat.lt_of_lt_of_le hk (Nat.pow_le_pow_right (by decide) h))
    rw [e]
    clear e
    go_enter Try.func9, Try.ntmps9
    go_wp2
    go_ret
    exact ⟨rfl, rfl⟩
  · go_enter Try.func9, Try.ntmps9
    go_wp2
    go_ret
    exact ⟨rfl, rfl⟩

theorem below_drewN' {B : Nat} {a w : World} (h : Below B a w) (n : Nat) : Below B a (w.drewN n) := h.trans ⟨rfl, rfl, rfl, Nat.le_refl _, fun _ _ => rfl⟩

set_option maxHeartbeats 1000000 in
theorem same_any (a b : Option Addr) (n ca cb : Nat) (A : List Nat) (w : World) (hA : A.length = n) (hn : n ≤ 131072) (ha : WRow w a A) (hb : WRow w b A) :
    Calls Try.prog 8 #[.slice a n ca, .slice b n cb] w fun e w' => e = .returned (.bool true) ∧ Below w.heap.size w w' := by
  have HA : Hid (A.length = n) := hA
  clear hA
  go_enter Try.func8, Try.ntmps8
  go_wp2
  go_loopw [5] (fun i wr => ∃ k : Nat, k ≤ n ∧ i = .int .i64 k ∧ Below w.heap.size w wr) (fun i _ => n - (intOf i).toNat)
  case atStart => exact ⟨0, Nat.zero_le _, rfl, Below.refl _ _⟩
  case round =>
    obtain ⟨k, hk, rfl, hbl⟩ := hrel
    by_cases hlt : k < n
    · obtain ⟨b1, o1, rfl, l1, c1⟩ := (ha.later hbl) k (by rw [HA.out]; exact hlt)
      obtain ⟨b2, o2, rfl, l2, c2⟩ := (hb.later hbl) k (by rw [HA.out]; exact hlt)
      have hk0 : (0 : Int) ≤ (k : Int) := by omega
      have hk1 : (k : Int) < (n : Int) := by omega
      clear ha hb
      generalize ((A.getD k 0 : Nat) : Int) = c at c1 c2
      go_wp2_with fail
      go_quiet (fail)
      go_wp2
      go_roundw
      case rel => exact ⟨k + 1, by omega, by go_num, below_drewN' hbl _⟩
      case measure => simp [intOf]; omega
    · go_wp2
      go_ret
      exact ⟨rfl, hbl⟩

theorem zzb_any (a : Option Addr) (n cap : Nat) (lo : Int) (w : World) (_hn : n ≤ maxLen) :
    Calls Try.prog 4 #[.slice a n cap, .int .u64 lo] w fun e w' => e = .returned (.bool (decide (n ≤ 1048576))) ∧ w' = w := by
  unfold maxLen at *
  by_cases h1 : n ≤ 1048576
  · rw [decide_eq_true h1]
    go_enter Try.func4, Try.ntmps4
    go_wp2
    go_ret
    exact ⟨rfl, rfl⟩
  · rw [decide_eq_false h1]
    go_enter Try.func4, Try.ntmps4
    go_wp2
    go_ret
    exact ⟨rfl, rfl⟩

end Go.Proofs.Qxb6604273a
