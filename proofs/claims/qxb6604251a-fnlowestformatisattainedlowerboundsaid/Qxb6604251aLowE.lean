/-
  Seat b6604251a: the law's walk.
-/
import Derived.Test.Qxb6604251aLowD
namespace Go.Proofs.Qxb6604251a
open Go.RowKit Go.Maps Go.WideMaps

/-- A member's format, as the law reckons it. -/
def gf (f : Int) : Int := if f = 0 then 1 else f

theorem fmtOf_gf (F : ByteArray → Int) (Ok : ByteArray → Bool) (s : ByteArray) (h0 : 0 ≤ F s) (hno : Ok s = false → F s = 0) : fmtOf F Ok s = gf (F s) := by
  unfold fmtOf ann gf
  cases h : Ok s
  · rw [hno h]; simp
  · simp only [if_true]; repeat' split
    all_goals omega

theorem low_own (F : ByteArray → Int) (Ok : ByteArray → Bool) (S : Nat → ByteArray) (own : Int) (k : Nat) : low F Ok S own k ≤ own := by
  induction k with
  | zero => exact Int.le_refl _
  | succ k ih => unfold low; split <;> omega

theorem low_le (F : ByteArray → Int) (Ok : ByteArray → Bool) (S : Nat → ByteArray) (own : Int) (k i : Nat) (hi : i < k) : low F Ok S own k ≤ fmtOf F Ok (S i) := by
  induction k with
  | zero => omega
  | succ k ih =>
    unfold low
    by_cases h : i < k
    · have := ih h; split <;> omega
    · obtain rfl : i = k := by omega
      split <;> omega

/-- 'attained' behind k rounds. -/
def att (own got : Int) (g : Nat → Int) : Nat → Bool
  | 0 => got == own
  | k + 1 => if got == g k then true else att own got g k

theorem att_mono (own got : Int) (g : Nat → Int) (k : Nat) (h : att own got g k = true) (m : Nat) : att own got g (k + m) = true := by
  induction m with
  | zero => exact h
  | succ m ih => show (if got == g (k + m) then true else att own got g (k + m)) = true; rw [ih]; simp

theorem att_low (F : ByteArray → Int) (Ok : ByteArray → Bool) (S : Nat → ByteArray) (own : Int) (g : Nat → Int) (k : Nat) (hg : ∀ i, i < k → fmtOf F Ok (S i) = g i) : att own (low F Ok S own k) g k = true := by
  have key : ∀ k got, (∀ i, i < k → fmtOf F Ok (S i) = g i) → got = low F Ok S own k → att own got g k = true := by
    intro k
    induction k with
    | zero => intro got _ h; subst h; simp [att]
    | succ k ih =>
      intro got hg h
      unfold low at h
      by_cases c : fmtOf F Ok (S k) < low F Ok S own k
      · rw [if_pos c] at h
        rw [hg k (by omega)] at h
        simp [att, h]
      · rw [if_neg c] at h
        simp [att, ih got (fun i hi => hg i (by omega)) h]
  exact key k _ hg rfl

end Go.Proofs.Qxb6604251a
