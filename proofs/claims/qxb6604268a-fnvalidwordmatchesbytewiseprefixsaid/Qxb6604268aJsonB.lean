/-
  Seat b6604268a: validWord and wordModel.
-/
import Derived.Test.Qxb6604268aJsonA
import Derived.Deep.QuietTactic
import Derived.BigQuiet
import Derived.WalkSmall
namespace Go.Proofs.Qxb6604268a
open Go.RowKit

theorem below_drewN' {B : Nat} {a w : World} (h : Below B a w) (n : Nat) : Below B a (w.drewN n) := h.trans ⟨rfl, rfl, rfl, Nat.le_refl _, fun _ _ => rfl⟩

/-- A word's byte. -/
def wb (s : ByteArray) (j : Nat) : Int := ((s.data.toList[j]?.getD 0).toNat : Int)

theorem wb_eq (s : ByteArray) (k : Nat) (h : k < s.size) : ((s[k].toNat : Nat) : Int) = wb s k := by
  unfold wb
  have h2 : k < s.data.toList.length := by simpa using h
  rw [List.getElem?_eq_getElem h2]
  rfl

/-- The word's bytes stand in D from i on, within the first n. -/
def Full (D : Nat → Int) (n i : Nat) (s : ByteArray) : Prop := i ≤ n ∧ ∀ j, j < s.size → i + j < n ∧ D (i + j) = wb s j

def full (D : Nat → Int) (n i : Nat) (s : ByteArray) : Bool := decide (i ≤ n) && (List.range s.size).all fun j => decide (i + j < n) && decide (D (i + j) = wb s j)

theorem full_iff (D : Nat → Int) (n i : Nat) (s : ByteArray) : full D n i s = true ↔ Full D n i s := by
  simp [full, Full]

theorem full_true {D : Nat → Int} {n i : Nat} {s : ByteArray} (h : Full D n i s) : full D n i s = true := (full_iff _ _ _ _).2 h
theorem full_false {D : Nat → Int} {n i : Nat} {s : ByteArray} (h : ¬ Full D n i s) : full D n i s = false := by
  cases e : full D n i s
  · rfl
  · exact absurd ((full_iff _ _ _ _).1 e) h

/-- What both functions answer. -/
def ans (D : Nat → Int) (n i : Nat) (s : ByteArray) : Value := .tuple #[.int .i64 (if full D n i s then (i : Int) + s.size else i), .bool (full D n i s)]
theorem ans_true {D : Nat → Int} {n i : Nat} {s : ByteArray} (h : Full D n i s) : ans D n i s = .tuple #[.int .i64 ((i : Int) + s.size), .bool true] := by simp [ans, full_true h]
theorem ans_false {D : Nat → Int} {n i : Nat} {s : ByteArray} (h : ¬ Full D n i s) : ans D n i s = .tuple #[.int .i64 i, .bool false] := by simp [ans, full_false h]

theorem ret_true {D : Nat → Int} {n i : Nat} {s : ByteArray} (h : Full D n i s) : Ending.returned (.tuple #[.int .i64 ((i : Int) + s.size), .bool true]) = .returned (ans D n i s) := by rw [ans_true h]
theorem ret_false {D : Nat → Int} {n i : Nat} {s : ByteArray} (h : ¬ Full D n i s) : Ending.returned (.tuple #[.int .i64 i, .bool false]) = .returned (ans D n i s) := by rw [ans_false h]

theorem model_past (a : Option Addr) (n cap i : Nat) (D : Nat → Int) (s : ByteArray) (w : World) (hp : n < i) :
    Calls Try.prog 10 #[.slice a n cap, .int .i64 i, .string s] w fun e w' => e = .returned (ans D n i s) ∧ Below w.heap.size w w' := by
  rw [ans_false (fun h => by have := h.1; omega)]
  go_enter Try.func10, Try.ntmps10
  go_wp2
  go_ret2
  exact ⟨rfl, Below.refl _ _⟩

set_option maxHeartbeats 1000000 in
theorem model_in (a : Option Addr) (n cap i : Nat) (D : Nat → Int) (s : ByteArray) (w : World) (hn : n ≤ 1048576) (hs : s.size ≤ 1048576) (hp : i ≤ n) (hr : ByteRow w a n D) :
    Calls Try.prog 10 #[.slice a n cap, .int .i64 i, .string s] w fun e w' => e = .returned (ans D n i s) ∧ Below w.heap.size w w' := by
  go_enter Try.func10, Try.ntmps10
  go_wp2
  go_loopw [8] (fun v wr => ∃ k : Nat, k ≤ s.size ∧ v = .int .i64 k ∧ (∀ j, j < k → i + j < n ∧ D (i + j) = wb s j) ∧ Below w.heap.size w wr) (fun v _ => s.size - (intOf v).toNat)
  case atStart => exact ⟨0, Nat.zero_le _, rfl, fun j hj => by omega, Below.refl _ _⟩
  case round =>
    obtain ⟨k, hk, rfl, hall, hb⟩ := hrel
    have HA : Hid (∀ j, j < k → i + j < n ∧ D (i + j) = wb s j) := hall
    clear hall
    by_cases hlt : k < s.size
    · by_cases hik : i + k < n
      · obtain ⟨b, off, rfl, hl, hc, hd⟩ := (hr.later hb) (i + k) hik
        have hg : decide ((n : Int) ≤ (i : Int) + (k : Int)) = false := decide_eq_false (by omega)
        have hi0 : (0 : Int) ≤ (i : Int) + (k : Int) := by omega
        have hi1 : (i : Int) + (k : Int) < (n : Int) := by omega
        have hk0 : (0 : Int) ≤ (k : Int) := by omega
        have hk1 : (k : Int) < (s.size : Int) := by omega
        clear hr
        go_wp2_with fail
        go_quiet (fail)
        go_wp2
        · have h : (D (i + k) != ((s[k].toNat : Nat) : Int)) = true := by assumption
          have hne : ¬ Full D n i s := fun hf => by
            rw [wb_eq s k hlt, (hf.2 k hlt).2] at h
            simp at h
          go_ret2
          exact ⟨ret_false hne, below_drewN' hb _⟩
        · have h : (D (i + k) != ((s[k].toNat : Nat) : Int)) = false := by assumption
          have he : D (i + k) = wb s k := by
            rw [wb_eq s k hlt] at h
            simpa using h
          go_roundw
          case rel =>
            refine ⟨k + 1, by omega, by go_num, fun j hj => ?_, below_drewN' hb _⟩
            by_cases hjk : j < k
            · exact HA.out j hjk
            · obtain rfl : j = k := by omega
              exact ⟨hik, he⟩
          case measure => simp [intOf]; omega
      · have hg : decide ((n : Int) ≤ (i : Int) + (k : Int)) = true := decide_eq_true (by omega)
        have hne : ¬ Full D n i s := fun hf => hik (hf.2 k hlt).1
        clear hr
        go_wp2_with fail
        go_quiet (fail)
        go_wp2
        go_ret2
        exact ⟨ret_false hne, below_drewN' hb _⟩
    · have hfull : Full D n i s := ⟨hp, fun j hj => HA.out j (by omega)⟩
      go_wp2
      go_ret2
      exact ⟨ret_true hfull, hb⟩

end Go.Proofs.Qxb6604268a
