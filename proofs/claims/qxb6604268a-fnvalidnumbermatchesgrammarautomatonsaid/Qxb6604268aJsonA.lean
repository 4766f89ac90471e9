/-
  Seat b6604268a: what the walks are told of a slice of bytes; cloneBytes.
-/
import Derived.Test.Qxb6604268aRows
import Derived.WalkKit
import Derived.Deep.OwnRows
import Derived.OpenShut
import Derived.Lib.SliceRun
namespace Go.Proofs.Qxb6604268a
open Go.RowKit

theorem Try.info5 : (Try.prog.info? 5).map (fun i => (i.zero, i.size, i.bytes)) = some (some (.int .u8 0), 1, 1) := by kernel_rfl

/-- The first n cells behind a hold the bytes D. -/
def ByteRow (w : World) (a : Option Addr) (n : Nat) (D : Nat → Int) : Prop :=
  ∀ i, i < n → ∃ b off, a = some ⟨b, off, none⟩ ∧ b < w.heap.size ∧ w.cell? ⟨b, off + i, none⟩ = some (.int .u8 (D i)) ∧ 0 ≤ D i ∧ D i ≤ 255

theorem ByteRow.later {w w' : World} {a : Option Addr} {n : Nat} {D : Nat → Int} (h : ByteRow w a n D) (hb : Below w.heap.size w w') : ByteRow w' a n D := fun i hi => by
  obtain ⟨b, off, rfl, hl, hc, hd⟩ := h i hi
  exact ⟨b, off, rfl, Nat.lt_of_lt_of_le hl hb.size, by rw [hb.cell (p := ⟨b, off + i, none⟩) hl]; exact hc, hd⟩

/-- What cloneBytes hands back: nil, or a new row. -/
def Cloned (w : World) (a : Option Addr) (n cap : Nat) (D : Nat → Int) : Prop :=
  ((a = none ∧ n = 0 ∧ cap = 0) ∨ (∃ B, a = some ⟨B, 0, none⟩ ∧ cap = n)) ∧ ByteRow w a n D

/-- The new row behind k rounds. -/
def part (D : Nat → Int) (k : Nat) (i : Nat) : Value := .int .u8 (if i < k then D i else 0)

theorem part_step (D : Nat → Int) (k : Nat) : (fun j => if j = k then Value.int .u8 (D k) else part D k j) = part D (k + 1) := by
  funext j
  unfold part
  by_cases h : j = k
  · subst h; simp
  · rw [if_neg h]
    by_cases h2 : j < k
    · rw [if_pos h2, if_pos (by omega)]
    · rw [if_neg h2, if_neg (by omega)]

set_option maxHeartbeats 400000 in
theorem clone_nil (cap : Nat) (D : Nat → Int) (w : World) : Calls Try.prog 8 #[.slice none 0 cap] w fun e w' => ∃ a' cap', e = .returned (.slice a' 0 cap') ∧ Cloned w' a' 0 cap' D ∧ Below w.heap.size w w' := by
  have hq := fun w : World => Lib.run_eql_slice_nil (P := Try.prog) w 22 5 none 0 cap 0 0 Try.underlying22
  go_enter Try.func8, Try.ntmps8
  go_wp2
  go_ret
  exact ⟨_, _, rfl, ⟨.inl ⟨rfl, rfl, rfl⟩, fun i hi => by omega⟩, Below.refl _ _⟩

set_option maxHeartbeats 400000 in
theorem clone_some (x : Addr) (n cap : Nat) (D : Nat → Int) (w : World) (hn : n ≤ 1048576) (hr : ByteRow w (some x) n D) :
    Calls Try.prog 8 #[.slice (some x) n cap] w fun e w' => ∃ a' cap', e = .returned (.slice a' n cap') ∧ Cloned w' a' n cap' D ∧ Below w.heap.size w w' := by
  have hq := fun w : World => Lib.run_eql_slice_nil (P := Try.prog) w 22 5 (some x) n cap 0 0 Try.underlying22
  have hmk := run_make_row' (P := Try.prog) 22 5 (.int .u8 0) 1 Try.underlying22 Try.info5 rfl .i64 .i64 n (by omega) (by omega)
  go_enter Try.func8, Try.ntmps8
  go_wp2
  go_loopw [4] (fun i wr => ∃ k : Nat, k ≤ n ∧ i = .int .i64 k ∧ wr.rowIs w.heap.size 5 n (part D k) ∧ Below w.heap.size w wr) (fun i _ => n - (intOf i).toNat)
  case atStart =>
    exact ⟨0, Nat.zero_le _, rfl, (World.rowIs_made w (.int .u8 0) n 5).congr (fun i hi => by simp [part]), (Below.refl _ _).alloc (Nat.le_refl _) _⟩
  case round =>
    obtain ⟨k, hk, rfl, hrow, hb⟩ := hrel
    by_cases hlt : k < n
    · obtain ⟨b, off, hx, hl, hc, hd⟩ := (hr k hlt)
      have hcr := (hb.cell (p := ⟨b, off + k, none⟩) hl).trans hc
      have hcd := hrow.cell hlt
      have hfd := hrow.frozen k
      simp only [Option.some.injEq] at hx
      subst hx
      go_wp2
      go_roundw
      case rel => exact ⟨k + 1, by omega, by go_num, by rw [← part_step]; exact hrow.set k _, hb.setCell (Nat.le_refl _) _⟩
      case measure => simp [intOf]; omega
    · obtain rfl : k = n := by omega
      go_wp2
      go_ret
      refine ⟨_, _, rfl, ⟨.inr ⟨_, rfl, rfl⟩, fun i hi => ⟨_, _, rfl, hrow.lt, ?_, ?_⟩⟩, hb⟩
      · rw [Nat.zero_add, hrow.cell hi]; simp [part, hi]
      · obtain ⟨_, _, _, _, _, h⟩ := hr i hi; exact h

theorem clone_any (a : Option Addr) (n cap : Nat) (D : Nat → Int) (w : World) (hn : n ≤ 1048576) (hr : ByteRow w a n D) (hnil : a = none → n = 0) :
    Calls Try.prog 8 #[.slice a n cap] w fun e w' => ∃ a' cap', e = .returned (.slice a' n cap') ∧ Cloned w' a' n cap' D ∧ Below w.heap.size w w' := by
  cases a with
  | none => obtain rfl := hnil rfl; exact clone_nil cap D w
  | some x => exact clone_some x n cap D w hn hr

end Go.Proofs.Qxb6604268a
