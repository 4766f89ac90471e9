/-
  Seat b6604251a: LowestFormat.
-/
import Derived.Test.Qxb6604251aLowB
namespace Go.Proofs.Qxb6604251a
open Go.RowKit Go.Maps Go.WideMaps

/-- A member's format, as LowestFormat reckons it. -/
def fmtOf (F : ByteArray → Int) (Ok : ByteArray → Bool) (s : ByteArray) : Int := if 1 > ann (F s) (Ok s) then 1 else ann (F s) (Ok s)

/-- LowestFormat over the first k members. -/
def low (F : ByteArray → Int) (Ok : ByteArray → Bool) (S : Nat → ByteArray) (own : Int) : Nat → Int
  | 0 => own
  | k + 1 => if fmtOf F Ok (S k) < low F Ok S own k then fmtOf F Ok (S k) else low F Ok S own k

/-- The members that makeMembersTableB1 made lie in block g. -/
def MemRow (w : World) (g n : Nat) (S A : Nat → ByteArray) (T : Nat → Bool) : Prop :=
  g < w.heap.size ∧ ∀ i, i < n → w.cell? ⟨g, i * 3, none⟩ = some (.string (S i)) ∧ w.cell? ⟨g, i * 3 + 1, none⟩ = some (.string (A i)) ∧ w.cell? ⟨g, i * 3 + 2, none⟩ = some (.bool (T i)) ∧ (S i).size ≤ maxLen

theorem MemRow.later {w w' : World} {g n : Nat} {S A : Nat → ByteArray} {T : Nat → Bool} (h : MemRow w g n S A T) (hb : Below w.heap.size w w') : MemRow w' g n S A T := by
  refine ⟨Nat.lt_of_lt_of_le h.1 hb.size, fun i hi => ?_⟩
  rw [hb.cell (p := ⟨g, i * 3, none⟩) h.1, hb.cell (p := ⟨g, i * 3 + 1, none⟩) h.1, hb.cell (p := ⟨g, i * 3 + 2, none⟩) h.1]
  exact h.2 i hi

set_option maxHeartbeats 1000000 in
theorem low_any (own : Int) (g n cap B : Nat) (S A : Nat → ByteArray) (T : Nat → Bool) (m : Value) (F : ByteArray → Int) (Ok : ByteArray → Bool) (L : Int) (w : World)
    (hn : n ≤ 65536) (hM : MemRow w g n S A T) (hB : B ≤ w.heap.size) (hL : Looks B w m F Ok L) :
    Calls Try.prog 6 #[.int .u64 own, .slice (some ⟨g, 0, none⟩) n cap, m] w fun e w' => e = .returned (.int .u64 (low F Ok S own n)) ∧ Below w.heap.size w w' := by
  go_enter Try.func6, Try.ntmps6
  go_wp2
  go_loopw [7, 13] (fun t i wr => ∃ k : Nat, k ≤ n ∧ i = .int .i64 k ∧ t = .int .u64 (low F Ok S own k) ∧ Below w.heap.size w wr) (fun _ i _ => n - (intOf i).toNat)
  case atStart => exact ⟨0, Nat.zero_le _, rfl, rfl, Below.refl _ _⟩
  case round =>
    obtain ⟨k, hk, rfl, rfl, hb⟩ := hrel
    by_cases hlt : k < n
    · obtain ⟨c0, c1, c2, hs⟩ := (hM.later hb).2 k hlt
      have hlk := fun o => (hL.two ((wr.alloc o)) ((hb.mono hB).alloc (Nat.le_trans hB hb.size) _) (S k) hs)
      clear hL hM
      go_wp2_with (first | (go_at_call 7; refine (ann_any _ _ _ _ _ (hlk _)).mono ?_; rintro e w' ⟨rfl, rfl⟩))
      go_roundw
      case rel => exact ⟨k + 1, by omega, by go_num, by simp [low, fmtOf], hb.alloc hb.size _⟩
      case measure => simp [intOf]; omega
    · have : k = n := by omega
      subst this
      go_wp2
      go_ret
      exact ⟨rfl, hb⟩

end Go.Proofs.Qxb6604251a
