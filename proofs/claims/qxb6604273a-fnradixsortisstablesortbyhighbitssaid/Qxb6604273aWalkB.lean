/-
  Seat b6604273a: two rows of the call's own, one read, one written.
-/
import Derived.Test.Qxb6604273aWalkA
import Derived.Test.Qxb6604273aPlainC
namespace Go.Proofs.Qxb6604273a
open Go.RowKit

theorem RowAt.set {w : World} {g : Nat} {X : List Nat} (h : RowAt w g X) (o x : Nat) : RowAt (w.setCell ⟨g, o, none⟩ (.int .u64 (x : Int))) g (X.set o x) := by
  have h1 := World.rowIs.set h o (.int .u64 (x : Int))
  have h2 : (w.setCell ⟨g, o, none⟩ (.int .u64 (x : Int))).rowIs g 28 X.length (wv (X.set o x)) := h1.congr (fun j hj => by
    by_cases e : j = o
    · subst e
      rw [if_pos rfl]
      simp [wv, hj]
    · rw [if_neg e]
      simp [wv, Ne.symm e])
  unfold RowAt
  rw [List.length_set]
  exact h2

theorem RowAt.frozen {w : World} {g : Nat} {X : List Nat} (h : RowAt w g X) (o : Nat) : w.frozen? ⟨g, o, none⟩ = false := World.rowIs.frozen h o
theorem RowAt.lt {w : World} {g : Nat} {X : List Nat} (h : RowAt w g X) : g < w.heap.size := World.rowIs.lt h

/-- Blocks ga and gb of the call's own: ga holds A, gb holds X; below B nothing has turned. -/
structure Two (B : Nat) (w wr : World) (ga gb : Nat) (A X : List Nat) : Prop where
  ra : RowAt wr ga A
  rb : RowAt wr gb X
  ne : ga ≠ gb
  la : B ≤ ga
  lb : B ≤ gb
  bel : Below B w wr

theorem Two.store {B : Nat} {w wr : World} {ga gb : Nat} {A X : List Nat} (h : Two B w wr ga gb A X) (o x : Nat) : Two B w (wr.setCell ⟨gb, o, none⟩ (.int .u64 (x : Int))) ga gb A (X.set o x) :=
  ⟨World.rowIs.setOther h.ra h.ne _, h.rb.set o x, h.ne, h.la, h.lb, h.bel.setCell h.lb _⟩
theorem Two.drewN {B : Nat} {w wr : World} {ga gb : Nat} {A X : List Nat} (h : Two B w wr ga gb A X) (q : Nat) : Two B w (wr.drewN q) ga gb A X :=
  ⟨h.ra, h.rb, h.ne, h.la, h.lb, below_drewN' h.bel q⟩
theorem Two.swap {B : Nat} {w wr : World} {ga gb : Nat} {A X : List Nat} (h : Two B w wr ga gb A X) : Two B w wr gb ga X A :=
  ⟨h.rb, h.ra, Ne.symm h.ne, h.lb, h.la, h.bel⟩

end Go.Proofs.Qxb6604273a
