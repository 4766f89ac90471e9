/-
  Seat b6604268a: validWord.
-/
import Derived.Test.Qxb6604268aJsonB
namespace Go.Proofs.Qxb6604268a
open Go.RowKit

theorem word_short (a : Option Addr) (n cap i : Nat) (D : Nat → Int) (s : ByteArray) (w : World) (hn : n ≤ 1048576) (hs : s.size ≤ 1048576) (hi : i ≤ 9223372036854775807) (hp : n < i + s.size) :
    Calls Try.prog 16 #[.slice a n cap, .int .i64 i, .string s] w fun e w' => e = .returned (ans D n i s) ∧ w' = w := by
  have hne : ¬ Full D n i s := fun hf => by
    by_cases h0 : s.size = 0
    · have := hf.1; omega
    · have := (hf.2 (s.size - 1) (by omega)).1; omega
  have hd : ((n : Int) - (i : Int)) < (s.size : Int) := by omega
  rw [ans_false hne]
  go_enter Try.func16, Try.ntmps16
  go_wp2
  go_ret2
  exact ⟨rfl, rfl⟩

/-- The bytes that 'string(data[i:i+m])' reads. -/
def cut (D : Nat → Int) (i m : Nat) : List Int := (List.range m).map fun j => D (i + j)

theorem cut_full {D : Nat → Int} {n i : Nat} {s : ByteArray} (hb : ∀ j, j < n → 0 ≤ D j ∧ D j ≤ 255) (h : i + s.size ≤ n) : ((strOfNums (cut D i s.size)).toList == s.toList) = full D n i s := by
  have key : (strOfNums (cut D i s.size)).data.toList = s.data.toList ↔ Full D n i s := by
    rw [strOfNums_data]
    constructor
    · intro e
      refine ⟨by omega, fun j hj => ⟨by omega, ?_⟩⟩
      have e1 := congrArg (fun l => l[j]?) e
      simp only [cut, List.getElem?_map, List.getElem?_range hj, Option.map_some] at e1
      have hD := hb (i + j) (by omega)
      unfold wb
      rw [← e1]
      simp
      omega
    · intro hf
      apply List.ext_getElem?
      intro j
      by_cases hj : j < s.size
      · have h1 := (hf.2 j hj).2
        simp only [cut, List.getElem?_map, List.getElem?_range hj, Option.map_some]
        have h2 : j < s.data.toList.length := by simpa using hj
        rw [h1]
        unfold wb
        rw [List.getElem?_eq_getElem h2]
        simp
      · rw [List.getElem?_eq_none (by simp [cut]; omega), List.getElem?_eq_none (by simp; omega)]
  have hl : ∀ t : ByteArray, t.toList = t.data.toList := fun t => ByteArray.toList_eq t
  rw [Bool.eq_iff_iff, full_iff, ← key]
  simp [hl]

theorem empty_of {s : ByteArray} (hs : s.size = 0) : s = ByteArray.empty := by
  apply ByteArray.ext
  apply Array.ext_getElem?
  intro j
  have h0 : s.data.size = 0 := hs
  rw [Array.getElem?_eq_none (by omega), Array.getElem?_eq_none (by simp)]

theorem cut_getD (D : Nat → Int) (i m j : Nat) (hj : j < m) : (cut D i m).getD j 0 = D (i + j) := by
  simp [cut, hj]

theorem ret_full (D : Nat → Int) (n i : Nat) (s : ByteArray) (b : Bool) (h : b = full D n i s) : Ending.returned (.tuple #[.int .i64 (if b then (i : Int) + s.size else i), .bool b]) = .returned (ans D n i s) := by
  subst h; rfl

set_option maxHeartbeats 1000000 in
theorem word_row (n i : Nat) (D : Nat → Int) (s : ByteArray) (w : World) (hn : n ≤ 1048576) (hp : i + s.size ≤ n) (B : Nat) (hr : ByteRow w (some ⟨B, 0, none⟩) n D) :
    Calls Try.prog 16 #[.slice (some ⟨B, 0, none⟩) n n, .int .i64 i, .string s] w fun e w' => e = .returned (ans D n i s) ∧ w' = w := by
  have hd : ¬ ((n : Int) - (i : Int)) < (s.size : Int) := by omega
  have hcf := cut_full (D := D) (n := n) (i := i) (s := s) (fun j hj => by obtain ⟨_, _, _, _, _, h⟩ := hr j hj; exact h) hp
  have hcell : ∀ j, j < s.size → w.cell? ⟨B, i + j, none⟩ = some (.int .u8 ((cut D i s.size).getD j 0)) := fun j hj => by
    obtain ⟨b, off, h1, _, h2, _⟩ := hr (i + j) (by omega)
    simp only [Option.some.injEq, Addr.mk.injEq, and_true] at h1
    obtain ⟨rfl, rfl⟩ := h1
    rw [cut_getD _ _ _ _ hj]
    simpa using h2
  have hlen : (cut D i s.size).length = s.size := by simp [cut]
  by_cases hin : n = i
  · obtain rfl : s = ByteArray.empty := empty_of (by omega)
    subst hin
    have hcv := fun c => run_convert_bytes_arg w 22 5 Try.underlying22 Try.underlying5 B 0 0 c [] rfl (fun j hj => by omega) 9 Try.underlying9
    have he : strOfNums [] = ByteArray.empty := rfl
    rw [he] at hcv
    rw [ans_true (s := ByteArray.empty) ⟨Nat.le_refl _, fun j hj => absurd hj (Nat.not_lt_zero j)⟩]
    clear hcf hcell hlen hr hd he
    go_enter Try.func16, Try.ntmps16
    go_wp2
    go_ret2
    exact ⟨rfl, rfl⟩
  · have hcv := fun c => run_convert_bytes_arg w 22 5 Try.underlying22 Try.underlying5 B i s.size c (cut D i s.size) hlen hcell 9 Try.underlying9
    have HC : Hid (((strOfNums (cut D i s.size)).toList == s.toList) = full D n i s) := hcf
    clear hcf hcell hlen hr
    generalize strOfNums (cut D i s.size) = t at hcv HC
    go_enter Try.func16, Try.ntmps16
    go_wp2
    · have h : (!t.toList == s.toList) = true := by assumption
      have h2 : full D n i s = false := by rw [← HC.out]; simpa using h
      go_ret2
      exact ⟨ret_full D n i s false h2.symm, rfl⟩
    · have h : (!t.toList == s.toList) = false := by assumption
      have h2 : full D n i s = true := by rw [← HC.out]; simpa using h
      go_ret2
      exact ⟨ret_full D n i s true h2.symm, rfl⟩

set_option maxHeartbeats 1000000 in
theorem word_nil (D : Nat → Int) (s : ByteArray) (w : World) (hs : s.size = 0) :
    Calls Try.prog 16 #[.slice none 0 0, .int .i64 0, .string s] w fun e w' => e = .returned (ans D 0 0 s) ∧ w' = w := by
  have hcv := fun l c => run_convert_bytes_nil (P := Try.prog) w 22 5 Try.underlying22 Try.underlying5 l c 9 Try.underlying9
  have hf : Full D 0 0 s := ⟨Nat.le_refl _, fun j hj => by omega⟩
  have he := empty_of hs
  subst he
  rw [ans_true hf]
  clear hs
  go_enter Try.func16, Try.ntmps16
  go_wp2
  go_ret2
  exact ⟨rfl, rfl⟩

theorem word_any (a : Option Addr) (n cap i : Nat) (D : Nat → Int) (s : ByteArray) (w : World) (hn : n ≤ 1048576) (hs : s.size ≤ 1048576) (hi : i ≤ 9223372036854775807) (hr : Cloned w a n cap D) :
    Calls Try.prog 16 #[.slice a n cap, .int .i64 i, .string s] w fun e w' => e = .returned (ans D n i s) ∧ w' = w := by
  by_cases hp : n < i + s.size
  · exact word_short a n cap i D s w hn hs hi hp
  · rcases hr.1 with ⟨rfl, rfl, rfl⟩ | ⟨B, rfl, rfl⟩
    · obtain rfl : i = 0 := by omega
      exact word_nil D s w (by omega)
    · exact word_row _ i D s w hn (by omega) B hr.2

theorem ans_form (D : Nat → Int) (n i : Nat) (s : ByteArray) : ∃ (x : Int) (b : Bool), ans D n i s = .tuple #[.int .i64 x, .bool b] := ⟨_, _, rfl⟩

theorem zzword_any (a : Option Addr) (n cap i : Nat) (D : Nat → Int) (s : ByteArray) (w : World) (hn : n ≤ 1048576) (hs : s.size ≤ 1048576) (hi : i ≤ 9223372036854775807) (hr : Cloned w a n cap D) :
    Calls Try.prog 9 #[.slice a n cap, .int .i64 i, .string s] w fun e w' => e = .returned (ans D n i s) ∧ w' = w := by
  have hc := word_any a n cap i D s w hn hs hi hr
  obtain ⟨x, b, hx⟩ := ans_form D n i s
  rw [hx] at hc ⊢
  have HC : Hid (Calls Try.prog 16 #[.slice a n cap, .int .i64 i, .string s] w fun e w' => e = .returned (.tuple #[.int .i64 x, .bool b]) ∧ w' = w) := hc
  clear hc hr hx
  go_enter Try.func9, Try.ntmps9
  go_wp2_with fail
  refine HC.out.mono ?_
  rintro e w' ⟨rfl, rfl⟩
  go_wp2
  go_ret2
  exact ⟨rfl, rfl⟩

theorem wmodel_any (a : Option Addr) (n cap i : Nat) (D : Nat → Int) (s : ByteArray) (w : World) (hn : n ≤ 1048576) (hs : s.size ≤ 1048576) (hr : ByteRow w a n D) :
    Calls Try.prog 10 #[.slice a n cap, .int .i64 i, .string s] w fun e w' => e = .returned (ans D n i s) ∧ Below w.heap.size w w' := by
  by_cases hp : n < i
  · exact model_past a n cap i D s w hp
  · exact model_in a n cap i D s w hn hs (by omega) hr

end Go.Proofs.Qxb6604268a
