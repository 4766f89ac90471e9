/-
  Seat b6604251a: AnnouncedFormat; textBytesTableB1.
-/
import Derived.Test.Qxb6604251aLowA
namespace Go.Proofs.Qxb6604251a
open Go.RowKit Go.Maps Go.WideMaps

/-- AnnouncedFormat, plain. -/
def ann (f : Int) (ok : Bool) : Int := if ok then (if 1 > f then 1 else f) else 0

set_option maxHeartbeats 400000 in
theorem ann_any (s : ByteArray) (m : Value) (f : Int) (ok : Bool) (w : World)
    (hl : (Instr.lookup 25 m (.string s) true).run Try.prog w = .ok (.tuple #[.int .u64 f, .bool ok]) w) :
    Calls Try.prog 7 #[.string s, m] w fun e w' => e = .returned (.int .u64 (ann f ok)) ∧ w' = w := by
  cases ok
  · go_enter Try.func7, Try.ntmps7
    go_wp2
    go_ret
    exact ⟨rfl, rfl⟩
  · go_enter Try.func7, Try.ntmps7
    go_wp2
    all_goals
      go_ret
      exact ⟨by first | (simp [ann, *]; done) | (simp [ann]; omega), rfl⟩

/-- WHAT IS KNOWN OF A SLICE OF STRINGS THAT CAME IN (its first n cells). -/
def StrRow (w : World) (a : Option Addr) (n : Nat) (S : Nat → ByteArray) : Prop :=
  ∀ i, i < n → ∃ b off, a = some ⟨b, off, none⟩ ∧ b < w.heap.size ∧ w.cell? ⟨b, off + i, none⟩ = some (.string (S i)) ∧ (S i).size ≤ maxLen

set_option maxHeartbeats 400000 in
theorem text_any (a : Option Addr) (n cap : Nat) (S : Nat → ByteArray) (w : World) (hn : n ≤ maxLen) (hS : StrRow w a n S) :
    Calls Try.prog 4 #[.slice a n cap] w fun e w' => ∃ z, e = .returned (.int .i64 z) ∧ w = w' := by
  unfold maxLen at hn
  go_enter Try.func4, Try.ntmps4
  go_wp2
  go_loop [3, 4] (fun t i => ∃ (k : Nat) (z : Int), k ≤ n ∧ i = .int .i64 k ∧ t = .int .i64 z) (fun _ i => n - (intOf i).toNat)
  case atStart => exact ⟨0, 0, Nat.zero_le _, rfl, rfl⟩
  case round =>
    obtain ⟨k, z, hk, rfl, rfl⟩ := hrel
    by_cases hlt : k < n
    · obtain ⟨b, off, rfl, _, hc, hs⟩ := hS k hlt
      clear hS
      go_wp2
      · go_ret
        exact ⟨⟨_, rfl⟩, rfl⟩
      · go_round
        case rel => exact ⟨k + 1, _, by omega, by go_num, rfl⟩
        case measure => simp [intOf]; omega
    · go_wp2
      go_ret
      exact ⟨⟨_, rfl⟩, rfl⟩

end Go.Proofs.Qxb6604251a
