/-
  Seat b6604273a: laws on the array of counts.
-/
import Derived.Test.Qxb6604273aWalkB
import Derived.Laws.Bits64b
namespace Go.Proofs.Qxb6604273a
open Go.RowKit

/-- 256 noughts. -/
def noughts : Array Value := Array.replicate 256 (.int .i64 0)

set_option maxRecDepth 100000 in
theorem zero30 (w : World) : (zeroValue 30).run Try.prog w = .ok (.agg noughts) w := by kernel_rfl

theorem noughts_row (w : World) : (w.alloc (.cells noughts 30)).rowIs w.heap.size 30 256 (fun _ => .int .i64 0) := by
  have h := World.rowIs_alloc w noughts 30 (fun _ => .int .i64 0) (fun i hi => by
    unfold noughts at hi ⊢
    rw [Array.getElem?_replicate]
    simp at hi
    rw [if_pos hi])
  have e : noughts.size = 256 := by simp [noughts]
  rw [e] at h
  exact h

theorem index30 (cs : Array Value) (k : Nat) (c : Int) (w : World) (hk : k < 256) (h : cs[k]? = some (.int .i64 c)) : (Instr.index 30 (.agg cs) (.int .i64 (k : Int))).run Try.prog w = .ok (.int .i64 c) w := by
  have h1 : (0 : Int) ≤ (k : Int) := by omega
  simp [Instr.index, go_sem, h1, h]
  intro h2
  omega

/-- Three blocks of the call's own: A is read, X is written, gN holds the counts. -/
structure Tri (B : Nat) (w wr : World) (ga gb gN : Nat) (A X : List Nat) (f : Nat → Value) : Prop where
  two : Two B w wr ga gb A X
  rn : wr.rowIs gN 30 256 f
  na : gN ≠ ga
  nb : gN ≠ gb
  ln : B ≤ gN

theorem Tri.new {B : Nat} {w wr : World} {ga gb : Nat} {A X : List Nat} (h : Two B w wr ga gb A X) : Tri B w (wr.alloc (.cells noughts 30)) ga gb wr.heap.size A X (fun _ => .int .i64 0) :=
  ⟨⟨World.rowIs.alloc h.ra _, World.rowIs.alloc h.rb _, h.ne, h.la, h.lb, h.bel.alloc (Nat.le_trans h.la (Nat.le_of_lt h.ra.lt)) _⟩, noughts_row wr, Nat.ne_of_gt h.ra.lt, Nat.ne_of_gt h.rb.lt, Nat.le_trans h.la (Nat.le_of_lt h.ra.lt)⟩
theorem Tri.storeN {B : Nat} {w wr : World} {ga gb gN : Nat} {A X : List Nat} {f : Nat → Value} (h : Tri B w wr ga gb gN A X f) (v : Nat) (x : Value) : Tri B w (wr.setCell ⟨gN, v, none⟩ x) ga gb gN A X (fun j => if j = v then x else f j) :=
  ⟨⟨World.rowIs.setOther h.two.ra (Ne.symm h.na) _, World.rowIs.setOther h.two.rb (Ne.symm h.nb) _, h.two.ne, h.two.la, h.two.lb, h.two.bel.setCell h.ln _⟩, h.rn.set v x, h.na, h.nb, h.ln⟩
theorem Tri.storeB {B : Nat} {w wr : World} {ga gb gN : Nat} {A X : List Nat} {f : Nat → Value} (h : Tri B w wr ga gb gN A X f) (o x : Nat) : Tri B w (wr.setCell ⟨gb, o, none⟩ (.int .u64 (x : Int))) ga gb gN A (X.set o x) f :=
  ⟨h.two.store o x, World.rowIs.setOther h.rn h.nb _, h.na, h.nb, h.ln⟩
theorem Tri.congr {B : Nat} {w wr : World} {ga gb gN : Nat} {A X : List Nat} {f g : Nat → Value} (h : Tri B w wr ga gb gN A X f) (e : ∀ i, i < 256 → f i = g i) : Tri B w wr ga gb gN A X g :=
  ⟨h.two, h.rn.congr e, h.na, h.nb, h.ln⟩

end Go.Proofs.Qxb6604273a
