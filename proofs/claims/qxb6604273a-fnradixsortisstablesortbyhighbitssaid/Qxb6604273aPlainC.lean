/-
  Seat b6604273a: what the merge sort's loops keep, plain.
-/
import Derived.Test.Qxb6604273aPlainA
namespace Go.Proofs.Qxb6604273a

/-- The elements from i up to m. -/
def sl (A : List Nat) (i m : Nat) : List Nat := (A.drop i).take (m - i)

theorem sl_cons {A : List Nat} {i m : Nat} (h : i < m) (hm : m ≤ A.length) : sl A i m = A.getD i 0 :: sl A (i + 1) m := by
  unfold sl
  have hi : i < A.length := by omega
  rw [List.drop_eq_getElem_cons hi, show m - i = (m - (i + 1)) + 1 by omega, List.take_succ_cons]
  simp [List.getElem?_eq_getElem hi]
theorem sl_end (A : List Nat) {i m : Nat} (h : m ≤ i) : sl A i m = [] := by
  unfold sl; rw [show m - i = 0 by omega]; rfl

theorem drop_cons {M : List Nat} {o x : Nat} {r : List Nat} (h : M.drop o = x :: r) : o < M.length ∧ M.getD o 0 = x ∧ M.drop (o + 1) = r := by
  have hl : o < M.length := by
    rcases Nat.lt_or_ge o M.length with q | q
    · exact q
    · rw [List.drop_eq_nil_of_le q] at h; cases h
  rw [List.drop_eq_getElem_cons hl] at h
  obtain ⟨h1, h2⟩ := List.cons.inj h
  exact ⟨hl, by simp [List.getElem?_eq_getElem hl, h1], h2⟩

/-- X and M are alike below o. -/
def Upto (X M : List Nat) (o : Nat) : Prop := ∀ q, q < o → X.getD q 0 = M.getD q 0

theorem Upto.step {X M : List Nat} {o x : Nat} (h : Upto X M o) (hx : M.getD o 0 = x) (ho : o < X.length) : Upto (X.set o x) M (o + 1) := fun q hq => by
  by_cases e : q = o
  · subst e
    rw [hx]
    simp [ho]
  · rw [← h q (by omega)]
    simp [Ne.symm e]

theorem Upto.eq {X M : List Nat} (h : Upto X M M.length) (hl : X.length = M.length) : X = M := by
  apply List.ext_getElem hl
  intro i h1 h2
  have := h i h2
  simpa [List.getElem?_eq_getElem h1, List.getElem?_eq_getElem h2] using this

/-- The merge of two runs as far as it has come: o = i + (j - mid). -/
def Mrg (h : Nat → Nat) (A M X : List Nat) (i j mid top : Nat) (T : List Nat) : Prop :=
  Upto X M (i + (j - mid)) ∧ M.drop (i + (j - mid)) = mrg h (sl A i mid) (sl A j top) ++ T ∧ X.length = M.length ∧ mid ≤ j

theorem Mrg.second {h : Nat → Nat} {A M X T : List Nat} {i j mid top : Nat} (s : Mrg h A M X i j mid top T) (hi : i < mid) (hj : j < top) (hm : mid ≤ A.length) (ht : top ≤ A.length) (c : h (A.getD j 0) < h (A.getD i 0)) :
    i + (j - mid) < M.length ∧ Mrg h A M (X.set (i + (j - mid)) (A.getD j 0)) i (j + 1) mid top T := by
  obtain ⟨u, d, l, mj⟩ := s
  rw [sl_cons hi hm, sl_cons hj ht, mrg_second c] at d
  obtain ⟨h1, h2, h3⟩ := drop_cons d
  have e : i + (j + 1 - mid) = i + (j - mid) + 1 := by omega
  refine ⟨h1, ?_, ?_, by simpa using l, by omega⟩
  · rw [e]; exact u.step h2 (by omega)
  · rw [e, h3, sl_cons hi hm]; rfl

theorem Mrg.first {h : Nat → Nat} {A M X T : List Nat} {i j mid top : Nat} (s : Mrg h A M X i j mid top T) (hi : i < mid) (hj : j < top) (hm : mid ≤ A.length) (ht : top ≤ A.length) (c : ¬ h (A.getD j 0) < h (A.getD i 0)) :
    i + (j - mid) < M.length ∧ Mrg h A M (X.set (i + (j - mid)) (A.getD i 0)) (i + 1) j mid top T := by
  obtain ⟨u, d, l, mj⟩ := s
  rw [sl_cons hi hm, sl_cons hj ht, mrg_first c] at d
  obtain ⟨h1, h2, h3⟩ := drop_cons d
  have e : i + 1 + (j - mid) = i + (j - mid) + 1 := by omega
  refine ⟨h1, ?_, ?_, by simpa using l, mj⟩
  · rw [e]; exact u.step h2 (by omega)
  · rw [e, h3, sl_cons hj ht]; rfl

theorem Mrg.left {h : Nat → Nat} {A M X T : List Nat} {i j mid top : Nat} (s : Mrg h A M X i j mid top T) (hi : i < mid) (hj : top ≤ j) (hm : mid ≤ A.length) :
    i + (j - mid) < M.length ∧ Mrg h A M (X.set (i + (j - mid)) (A.getD i 0)) (i + 1) j mid top T := by
  obtain ⟨u, d, l, mj⟩ := s
  rw [sl_cons hi hm, sl_end A hj, mrg_nil_right] at d
  obtain ⟨h1, h2, h3⟩ := drop_cons d
  have e : i + 1 + (j - mid) = i + (j - mid) + 1 := by omega
  refine ⟨h1, ?_, ?_, by simpa using l, mj⟩
  · rw [e]; exact u.step h2 (by omega)
  · rw [e, h3, sl_end A hj, mrg_nil_right]; rfl

theorem Mrg.right {h : Nat → Nat} {A M X T : List Nat} {i j mid top : Nat} (s : Mrg h A M X i j mid top T) (hi : mid ≤ i) (hj : j < top) (ht : top ≤ A.length) :
    i + (j - mid) < M.length ∧ Mrg h A M (X.set (i + (j - mid)) (A.getD j 0)) i (j + 1) mid top T := by
  obtain ⟨u, d, l, mj⟩ := s
  rw [sl_end A hi, sl_cons hj ht, mrg_nil_left] at d
  obtain ⟨h1, h2, h3⟩ := drop_cons d
  have e : i + (j + 1 - mid) = i + (j - mid) + 1 := by omega
  refine ⟨h1, ?_, ?_, by simpa using l, by omega⟩
  · rw [e]; exact u.step h2 (by omega)
  · rw [e, h3, sl_end A hi, mrg_nil_left]; rfl

theorem Mrg.done {h : Nat → Nat} {A M X T : List Nat} {mid top : Nat} (s : Mrg h A M X mid top mid top T) : Upto X M top ∧ M.drop top = T := by
  obtain ⟨u, d, l, mj⟩ := s
  rw [sl_end A (Nat.le_refl mid), sl_end A (Nat.le_refl top), mrg_nil_left, List.nil_append] at d
  have e : mid + (top - mid) = top := by omega
  rw [e] at u d
  exact ⟨u, d⟩

/-- The pass as far as block lo. -/
def Pas (h : Nat → Nat) (W : Nat) (A M X : List Nat) (lo : Nat) : Prop :=
  Upto X M (min lo M.length) ∧ (∃ f, A.length - lo ≤ f ∧ M.drop lo = pass h W f (A.drop lo)) ∧ X.length = M.length

theorem Pas.start {h : Nat → Nat} {W : Nat} {A X : List Nat} (hW : 0 < W) (hX : X.length = A.length) : Pas h W A (pass h W A.length A) X 0 :=
  ⟨fun q hq => by omega, ⟨A.length, by omega, by simp⟩, by rw [pass_length h W hW _ _ (Nat.le_refl _), hX]⟩

theorem Pas.enter {h : Nat → Nat} {W : Nat} {A M X : List Nat} {lo mid top : Nat} (s : Pas h W A M X lo) (hW : 0 < W) (hM : M.length = A.length) (hlo : lo < A.length) (hmid : mid = min (lo + W) A.length) (htop : top = min (lo + 2 * W) A.length) :
    ∃ T, Mrg h A M X lo mid mid top T ∧ (∃ f, A.length - (lo + 2 * W) ≤ f ∧ T = pass h W f (A.drop (lo + 2 * W))) := by
  obtain ⟨u, ⟨f, hf, d⟩, l⟩ := s
  obtain ⟨f, rfl⟩ : ∃ g, f = g + 1 := ⟨f - 1, by omega⟩
  refine ⟨_, ⟨?_, ?_, l, Nat.le_refl _⟩, f, ?_, rfl⟩
  · rw [Nat.sub_self, Nat.add_zero]; intro q hq; exact u q (by omega)
  · rw [Nat.sub_self, Nat.add_zero, d]
    simp only [pass]
    congr 1
    · congr 1
      · unfold sl
        apply List.ext_getElem?
        intro k
        rw [List.getElem?_take, List.getElem?_take]
        by_cases c : k < mid - lo
        · rw [if_pos c, if_pos (by omega)]
        · rw [if_neg c]
          by_cases c2 : k < W
          · rw [if_pos c2, List.getElem?_eq_none (by simp; omega)]
          · rw [if_neg c2]
      · unfold sl
        rw [List.drop_drop]
        apply List.ext_getElem?
        intro k
        rw [List.getElem?_take, List.getElem?_take, List.getElem?_drop, List.getElem?_drop]
        by_cases c : k < top - mid
        · rw [if_pos c, if_pos (by omega), show mid = lo + W by omega]
        · rw [if_neg c]
          by_cases c2 : k < W
          · rw [if_pos c2, List.getElem?_eq_none (by omega)]
          · rw [if_neg c2]
    · rw [List.drop_drop]
  · omega

theorem Pas.next {h : Nat → Nat} {W : Nat} {A M X T : List Nat} {lo mid top : Nat} (s : Mrg h A M X mid top mid top T) (hM : M.length = A.length) (htop : top = min (lo + 2 * W) A.length)
    (hT : ∃ f, A.length - (lo + 2 * W) ≤ f ∧ T = pass h W f (A.drop (lo + 2 * W))) : Pas h W A M X (lo + 2 * W) := by
  obtain ⟨u, d⟩ := s.done
  obtain ⟨f, hf, rfl⟩ := hT
  refine ⟨fun q hq => u q (by omega), ⟨f, hf, ?_⟩, s.2.2.1⟩
  by_cases c : lo + 2 * W ≤ A.length
  · rw [← d]; congr 1; omega
  · rw [List.drop_eq_nil_of_le (by omega), List.drop_eq_nil_of_le (by omega), pass_nil]

theorem Pas.done {h : Nat → Nat} {W : Nat} {A M X : List Nat} {lo : Nat} (s : Pas h W A M X lo) (hM : M.length = A.length) (hlo : A.length ≤ lo) : X = M := by
  obtain ⟨u, _, l⟩ := s
  exact Upto.eq (fun q hq => u q (by omega)) l

end Go.Proofs.Qxb6604273a
