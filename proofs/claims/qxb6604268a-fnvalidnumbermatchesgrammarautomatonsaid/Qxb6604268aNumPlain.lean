/-
  Seat b6604268a: the plain mathematics of validNumber and of the automaton: no Go in sight.
-/
namespace Go.Proofs.Qxb6604268a

def dig (c : Int) : Bool := decide (48 ≤ c) && decide (c ≤ 57)

theorem dig_iff (c : Int) : dig c = true ↔ 48 ≤ c ∧ c ≤ 57 := by simp [dig]

def skipF (D : Nat → Int) : Nat → Nat → Nat
  | 0, i => i
  | f + 1, i => if dig (D i) then skipF D f (i + 1) else i

/-- skipDigits. -/
def skip (D : Nat → Int) (n i : Nat) : Nat := skipF D (n - i) i

theorem skip_step {D : Nat → Int} {n i : Nat} (h : i < n) (hd : dig (D i) = true) : skip D n i = skip D n (i + 1) := by
  unfold skip
  obtain ⟨f, hf⟩ : ∃ f, n - i = f + 1 := ⟨n - i - 1, by omega⟩
  have hf' : n - (i + 1) = f := by omega
  rw [hf, hf']
  simp [skipF, hd]

theorem skip_stop {D : Nat → Int} {n i : Nat} (h : ¬ (i < n ∧ dig (D i) = true)) : skip D n i = i := by
  unfold skip
  by_cases hi : i < n
  · obtain ⟨f, hf⟩ : ∃ f, n - i = f + 1 := ⟨n - i - 1, by omega⟩
    rw [hf]
    have : dig (D i) = false := by cases hd : dig (D i); rfl; exact absurd ⟨hi, hd⟩ h
    simp [skipF, this]
  · have hf : n - i = 0 := by omega
    rw [hf]; rfl

theorem skipF_facts (D : Nat → Int) : ∀ (f i : Nat), i ≤ skipF D f i ∧ skipF D f i ≤ i + f ∧ (∀ k, i ≤ k → k < skipF D f i → dig (D k) = true) ∧ (skipF D f i = i + f ∨ dig (D (skipF D f i)) = false) := by
  intro f
  induction f with
  | zero => intro i; exact ⟨Nat.le_refl _, Nat.le_refl _, fun k h1 h2 => by simp [skipF] at h2; omega, .inl rfl⟩
  | succ f ih =>
    intro i
    unfold skipF
    cases hd : dig (D i)
    · simp only [Bool.false_eq_true, if_false]
      exact ⟨Nat.le_refl _, by omega, fun k h1 h2 => by omega, .inr hd⟩
    · simp only [if_true]
      obtain ⟨h1, h2, h3, h4⟩ := ih (i + 1)
      refine ⟨by omega, by omega, fun k hk1 hk2 => ?_, ?_⟩
      · by_cases hk : k = i
        · rw [hk]; exact hd
        · exact h3 k (by omega) hk2
      · rcases h4 with h | h
        · left; omega
        · exact .inr h

theorem skip_ge (D : Nat → Int) (n i : Nat) : i ≤ skip D n i := (skipF_facts D (n - i) i).1
theorem skip_le {D : Nat → Int} {n i : Nat} (h : i ≤ n) : skip D n i ≤ n := by
  have := (skipF_facts D (n - i) i).2.1
  unfold skip; omega
theorem skip_dig {D : Nat → Int} {n i k : Nat} (h1 : i ≤ k) (h2 : k < skip D n i) : dig (D k) = true := (skipF_facts D (n - i) i).2.2.1 k h1 h2
theorem skip_end {D : Nat → Int} {n i : Nat} (h : i ≤ n) : skip D n i = n ∨ dig (D (skip D n i)) = false := by
  rcases (skipF_facts D (n - i) i).2.2.2 with h' | h'
  · left; unfold skip; omega
  · exact .inr h'

theorem skip_uniq {D : Nat → Int} {n : Nat} : ∀ (m i j : Nat), j = i + m → j ≤ n → (∀ k, i ≤ k → k < j → dig (D k) = true) → (j = n ∨ dig (D j) = false) → skip D n i = j := by
  intro m
  induction m with
  | zero =>
    intro i j hj hn _ he
    have : i = j := by omega
    subst this
    exact skip_stop (fun ⟨h1, h2⟩ => by rcases he with h | h; omega; rw [h] at h2; cases h2)
  | succ m ih =>
    intro i j hj hn hd he
    rw [skip_step (by omega) (hd i (by omega) (by omega))]
    exact ih (i + 1) j (by omega) hn (fun k h1 h2 => hd k (by omega) h2) he

/-- Cutting at or behind where the digits end changes nothing. -/
theorem skip_cut {D : Nat → Int} {n i J : Nat} (hi : i ≤ n) (h1 : skip D n i ≤ J) (h2 : J ≤ n) : skip D J i = skip D n i := by
  have hg := skip_ge D n i
  refine skip_uniq (skip D n i - i) i _ (by omega) h1 (fun k a b => skip_dig a b) ?_
  rcases skip_end (D := D) hi with h | h
  · left; omega
  · exact .inr h

theorem skipF_shift (D : Nat → Int) (i : Nat) : ∀ (f s : Nat), skipF (fun k => D (i + k)) f s + i = skipF D f (i + s) := by
  intro f
  induction f with
  | zero => intro s; simp [skipF]; omega
  | succ f ih =>
    intro s
    unfold skipF
    cases hd : dig (D (i + s))
    · simp; omega
    · simp only [if_true]; rw [ih (s + 1)]; congr 1

theorem skip_shift {D : Nat → Int} {n i s : Nat} (_h : i + s ≤ n) : skip (fun k => D (i + k)) (n - i) s + i = skip D n (i + s) := by
  unfold skip
  rw [skipF_shift]
  congr 1
  omega

/-! ### validNumber, by its four parts -/
def p1 (D : Nat → Int) (n i : Nat) : Nat := if i < n ∧ D i = 45 then i + 1 else i
def p2 (D : Nat → Int) (n i : Nat) : Nat × Bool :=
  if i = n then (i, false) else if D i = 48 then (i + 1, true) else if 49 ≤ D i ∧ D i ≤ 57 then (skip D n (i + 1), true) else (i, false)
def p3 (D : Nat → Int) (n i : Nat) : Nat × Bool :=
  if i < n ∧ D i = 46 then (skip D n (i + 1), decide (skip D n (i + 1) ≠ i + 1)) else (i, true)
/-- Where the exponent's digits begin. -/
def es (D : Nat → Int) (n i : Nat) : Nat := if i < n ∧ (D i = 43 ∨ D i = 45) then i + 1 else i
def p4 (D : Nat → Int) (n i : Nat) : Nat × Bool :=
  if i < n ∧ (D i = 101 ∨ D i = 69) then (skip D n (es D n (i + 1)), decide (skip D n (es D n (i + 1)) ≠ es D n (i + 1))) else (i, true)
/-- Behind the whole part. -/
def rest (D : Nat → Int) (n i : Nat) : Nat × Bool := if (p3 D n i).2 then p4 D n (p3 D n i).1 else ((p3 D n i).1, false)
def vn (D : Nat → Int) (n i : Nat) : Nat × Bool :=
  if (p2 D n (p1 D n i)).2 then rest D n (p2 D n (p1 D n i)).1 else ((p2 D n (p1 D n i)).1, false)

theorem p1_in {D : Nat → Int} {n i : Nat} (h : i ≤ n) : i ≤ p1 D n i ∧ p1 D n i ≤ n := by
  unfold p1; split <;> omega
theorem p2_in {D : Nat → Int} {n i : Nat} (h : i ≤ n) : i ≤ (p2 D n i).1 ∧ (p2 D n i).1 ≤ n ∧ ((p2 D n i).2 = true → i < (p2 D n i).1) := by
  unfold p2
  by_cases h1 : i = n
  · rw [if_pos h1]; exact ⟨Nat.le_refl _, h, fun h => by cases h⟩
  · rw [if_neg h1]
    by_cases h2 : D i = 48
    · rw [if_pos h2]; exact ⟨by simp, by simp; omega, fun _ => by simp⟩
    · rw [if_neg h2]
      by_cases h3 : 49 ≤ D i ∧ D i ≤ 57
      · rw [if_pos h3]
        have a := skip_ge D n (i + 1)
        have b := skip_le (D := D) (n := n) (i := i + 1) (by omega)
        exact ⟨by simp only; omega, b, fun _ => by simp only; omega⟩
      · rw [if_neg h3]; exact ⟨Nat.le_refl _, h, fun h => by cases h⟩
theorem p3_in {D : Nat → Int} {n i : Nat} (h : i ≤ n) : i ≤ (p3 D n i).1 ∧ (p3 D n i).1 ≤ n := by
  unfold p3
  split
  · have a := skip_ge D n (i + 1)
    have b := skip_le (D := D) (n := n) (i := i + 1) (by omega)
    exact ⟨by simp only; omega, b⟩
  · exact ⟨Nat.le_refl _, h⟩
theorem es_in {D : Nat → Int} {n i : Nat} (h : i ≤ n) : i ≤ es D n i ∧ es D n i ≤ n := by
  unfold es; split <;> omega
theorem p4_in {D : Nat → Int} {n i : Nat} (h : i ≤ n) : i ≤ (p4 D n i).1 ∧ (p4 D n i).1 ≤ n := by
  unfold p4
  split
  · have a := skip_ge D n (es D n (i + 1))
    have c := es_in (D := D) (n := n) (i := i + 1) (by omega)
    have b := skip_le (D := D) (n := n) (i := es D n (i + 1)) (by omega)
    exact ⟨by simp only; omega, b⟩
  · exact ⟨Nat.le_refl _, h⟩
theorem rest_in {D : Nat → Int} {n i : Nat} (h : i ≤ n) : (p3 D n i).1 ≤ (rest D n i).1 ∧ i ≤ (rest D n i).1 ∧ (rest D n i).1 ≤ n := by
  have a := p3_in (D := D) h
  unfold rest
  split
  · have b := p4_in (D := D) a.2
    omega
  · exact ⟨Nat.le_refl _, a.1, a.2⟩
theorem vn_in {D : Nat → Int} {n i : Nat} (h : i ≤ n) : i ≤ (vn D n i).1 ∧ (vn D n i).1 ≤ n ∧ ((vn D n i).2 = true → i < (vn D n i).1) := by
  have a := p1_in (D := D) h
  have b := p2_in (D := D) a.2
  unfold vn
  split
  · rename_i hb
    have c := rest_in (D := D) b.2.1
    have := b.2.2 hb
    exact ⟨by omega, by omega, fun _ => by omega⟩
  · exact ⟨by simp only; omega, b.2.1, fun h => by cases h⟩

/-! ### cut at the answer -/
theorem p1_cut {D : Nat → Int} {n i J : Nat} (h1 : p1 D n i ≤ J) (h2 : J ≤ n) : p1 D J i = p1 D n i := by
  unfold p1 at *
  by_cases c : i < n ∧ D i = 45
  · rw [if_pos c] at h1 ⊢; rw [if_pos ⟨by omega, c.2⟩]
  · rw [if_neg c, if_neg (fun h => c ⟨by omega, h.2⟩)]
theorem p2_cut {D : Nat → Int} {n i J : Nat} (hi : i ≤ n) (h1 : (p2 D n i).1 ≤ J) (h2 : J ≤ n) (h3 : (p2 D n i).2 = false → J = (p2 D n i).1) : p2 D J i = p2 D n i := by
  unfold p2 at *
  by_cases c1 : i = n
  · rw [if_pos c1] at h1 h3 ⊢
    simp only at h1
    rw [if_pos (by omega)]
  · rw [if_neg c1] at h1 h3 ⊢
    by_cases c2 : D i = 48
    · rw [if_pos c2] at h1 h3 ⊢
      simp only at h1
      rw [if_neg (by omega), if_pos c2]
    · rw [if_neg c2] at h1 h3 ⊢
      by_cases c3 : 49 ≤ D i ∧ D i ≤ 57
      · rw [if_pos c3] at h1 h3 ⊢
        simp only at h1
        have a := skip_ge D n (i + 1)
        rw [if_neg (by omega), if_neg c2, if_pos c3, skip_cut (by omega) h1 h2]
      · rw [if_neg c3] at h1 h3 ⊢
        have := h3 rfl
        simp only at this
        rw [if_pos this.symm, if_neg c2, if_neg c3]
theorem p3_cut {D : Nat → Int} {n i J : Nat} (_hi : i ≤ n) (h1 : (p3 D n i).1 ≤ J) (h2 : J ≤ n) : p3 D J i = p3 D n i := by
  unfold p3 at *
  by_cases c : i < n ∧ D i = 46
  · rw [if_pos c] at h1 ⊢
    simp only at h1
    have a := skip_ge D n (i + 1)
    rw [if_pos ⟨by omega, c.2⟩, skip_cut (by omega) h1 h2]
  · rw [if_neg c] at h1 ⊢
    rw [if_neg (fun h => c ⟨by omega, h.2⟩)]
theorem es_cut {D : Nat → Int} {n i J : Nat} (h1 : es D n i ≤ J) (h2 : J ≤ n) : es D J i = es D n i := by
  unfold es at *
  by_cases c : i < n ∧ (D i = 43 ∨ D i = 45)
  · rw [if_pos c] at h1 ⊢; rw [if_pos ⟨by omega, c.2⟩]
  · rw [if_neg c, if_neg (fun h => c ⟨by omega, h.2⟩)]
theorem p4_cut {D : Nat → Int} {n i J : Nat} (_hi : i ≤ n) (h1 : (p4 D n i).1 ≤ J) (h2 : J ≤ n) : p4 D J i = p4 D n i := by
  unfold p4 at *
  by_cases c : i < n ∧ (D i = 101 ∨ D i = 69)
  · rw [if_pos c] at h1 ⊢
    simp only at h1
    have b := es_in (D := D) (n := n) (i := i + 1) (by omega)
    have a := skip_ge D n (es D n (i + 1))
    rw [if_pos ⟨by omega, c.2⟩, es_cut (by omega) h2, skip_cut b.2 h1 h2]
  · rw [if_neg c] at h1 ⊢
    rw [if_neg (fun h => c ⟨by omega, h.2⟩)]
theorem rest_cut {D : Nat → Int} {n i J : Nat} (hi : i ≤ n) (h1 : (rest D n i).1 ≤ J) (h2 : J ≤ n) : rest D J i = rest D n i := by
  have a := rest_in (D := D) hi
  have e := p3_cut (D := D) (J := J) hi (by omega) h2
  unfold rest at *
  rw [e]
  cases hb : (p3 D n i).2
  · rfl
  · rw [hb] at h1
    simp only [if_true] at h1 ⊢
    exact p4_cut (p3_in hi).2 h1 h2
theorem vn_cut {D : Nat → Int} {n i : Nat} (hi : i ≤ n) : vn D (vn D n i).1 i = vn D n i := by
  have a := vn_in (D := D) hi
  generalize hJ : (vn D n i).1 = J at a ⊢
  have b := p1_in (D := D) hi
  have c := p2_in (D := D) b.2
  unfold vn at hJ ⊢
  cases hb : (p2 D n (p1 D n i)).2
  · rw [hb] at hJ
    simp only [Bool.false_eq_true, if_false] at hJ ⊢
    rw [p1_cut (by omega) a.2.1, p2_cut b.2 (by omega) a.2.1 (fun _ => hJ.symm), hb]
    simp
  · rw [hb] at hJ
    simp only [if_true] at hJ ⊢
    have d := rest_in (D := D) c.2.1
    rw [p1_cut (by omega) a.2.1, p2_cut b.2 (by omega) a.2.1 (fun h => by rw [hb] at h; cases h), hb]
    simp only [if_true]
    exact rest_cut c.2.1 (by omega) a.2.1

/-! ### shifted -/
theorem p1_shift {D : Nat → Int} {n i s : Nat} (h : i + s ≤ n) : p1 (fun k => D (i + k)) (n - i) s + i = p1 D n (i + s) := by
  unfold p1
  by_cases c : i + s < n ∧ D (i + s) = 45
  · rw [if_pos c, if_pos ⟨by omega, c.2⟩]; omega
  · rw [if_neg c, if_neg (fun h => c ⟨by omega, h.2⟩)]; omega
/-- A pair moved by i. -/
def mv (i : Nat) (r : Nat × Bool) : Nat × Bool := (r.1 + i, r.2)
theorem p2_shift {D : Nat → Int} {n i s : Nat} (h : i + s ≤ n) : mv i (p2 (fun k => D (i + k)) (n - i) s) = p2 D n (i + s) := by
  unfold p2 mv
  by_cases c1 : i + s = n
  · rw [if_pos c1, if_pos (by omega)]; simp only [Prod.mk.injEq, and_true]; omega
  · rw [if_neg c1, if_neg (by omega)]
    by_cases c2 : D (i + s) = 48
    · rw [if_pos c2, if_pos c2]; simp only [Prod.mk.injEq, and_true]; omega
    · rw [if_neg c2, if_neg c2]
      by_cases c3 : 49 ≤ D (i + s) ∧ D (i + s) ≤ 57
      · rw [if_pos c3, if_pos c3]
        simp only
        rw [skip_shift (by omega), Nat.add_assoc]
      · rw [if_neg c3, if_neg c3]; simp only [Prod.mk.injEq, and_true]; omega
theorem p3_shift {D : Nat → Int} {n i s : Nat} (h : i + s ≤ n) : mv i (p3 (fun k => D (i + k)) (n - i) s) = p3 D n (i + s) := by
  unfold p3 mv
  by_cases c : i + s < n ∧ D (i + s) = 46
  · rw [if_pos c, if_pos ⟨by omega, c.2⟩]
    have e := skip_shift (D := D) (n := n) (i := i) (s := s + 1) (by omega)
    rw [← Nat.add_assoc] at e
    simp only
    rw [e]
    congr 1
    rw [decide_eq_decide]
    omega
  · rw [if_neg c, if_neg (fun h => c ⟨by omega, h.2⟩)]; simp only [Prod.mk.injEq, and_true]; omega
theorem es_shift {D : Nat → Int} {n i s : Nat} (h : i + s ≤ n) : es (fun k => D (i + k)) (n - i) s + i = es D n (i + s) := by
  unfold es
  by_cases c : i + s < n ∧ (D (i + s) = 43 ∨ D (i + s) = 45)
  · rw [if_pos c, if_pos ⟨by omega, c.2⟩]; omega
  · rw [if_neg c, if_neg (fun h => c ⟨by omega, h.2⟩)]; omega
theorem p4_shift {D : Nat → Int} {n i s : Nat} (h : i + s ≤ n) : mv i (p4 (fun k => D (i + k)) (n - i) s) = p4 D n (i + s) := by
  unfold p4 mv
  by_cases c : i + s < n ∧ (D (i + s) = 101 ∨ D (i + s) = 69)
  · rw [if_pos c, if_pos ⟨by omega, c.2⟩]
    have e1 := es_shift (D := D) (n := n) (i := i) (s := s + 1) (by omega)
    rw [← Nat.add_assoc] at e1
    have hin := es_in (D := D) (n := n) (i := i + s + 1) (by omega)
    have e2 := skip_shift (D := D) (n := n) (i := i) (s := es (fun k => D (i + k)) (n - i) (s + 1)) (by omega)
    rw [Nat.add_comm i (es _ _ _), e1] at e2
    simp only
    rw [e2]
    congr 1
    rw [decide_eq_decide]
    omega
  · rw [if_neg c, if_neg (fun h => c ⟨by omega, h.2⟩)]; simp only [Prod.mk.injEq, and_true]; omega
theorem rest_shift {D : Nat → Int} {n i s : Nat} (h : i + s ≤ n) : mv i (rest (fun k => D (i + k)) (n - i) s) = rest D n (i + s) := by
  have e := p3_shift (D := D) h
  have hin := p3_in (D := fun k => D (i + k)) (n := n - i) (i := s) (by omega)
  have ea : (p3 D n (i + s)).1 = (p3 (fun k => D (i + k)) (n - i) s).1 + i := by rw [← e]; rfl
  have eb : (p3 D n (i + s)).2 = (p3 (fun k => D (i + k)) (n - i) s).2 := by rw [← e]; rfl
  unfold rest
  rw [ea, eb]
  by_cases hb : (p3 (fun k => D (i + k)) (n - i) s).2 = true
  · rw [if_pos hb, if_pos hb]
    have := p4_shift (D := D) (n := n) (i := i) (s := (p3 (fun k => D (i + k)) (n - i) s).1) (by omega)
    rw [Nat.add_comm i] at this
    exact this
  · rw [if_neg hb, if_neg hb]; rfl
theorem vn_shift {D : Nat → Int} {n i s : Nat} (h : i + s ≤ n) : mv i (vn (fun k => D (i + k)) (n - i) s) = vn D n (i + s) := by
  have e1 := p1_shift (D := D) h
  have h1 := p1_in (D := fun k => D (i + k)) (n := n - i) (i := s) (by omega)
  have e2 := p2_shift (D := D) (n := n) (i := i) (s := p1 (fun k => D (i + k)) (n - i) s) (by omega)
  rw [Nat.add_comm i (p1 _ _ _), e1] at e2
  have h2 := p2_in (D := fun k => D (i + k)) (n := n - i) (i := p1 (fun k => D (i + k)) (n - i) s) h1.2
  have ea : (p2 D n (p1 D n (i + s))).1 = (p2 (fun k => D (i + k)) (n - i) (p1 (fun k => D (i + k)) (n - i) s)).1 + i := by rw [← e2]; rfl
  have eb : (p2 D n (p1 D n (i + s))).2 = (p2 (fun k => D (i + k)) (n - i) (p1 (fun k => D (i + k)) (n - i) s)).2 := by rw [← e2]; rfl
  unfold vn
  rw [ea, eb]
  by_cases hb : (p2 (fun k => D (i + k)) (n - i) (p1 (fun k => D (i + k)) (n - i) s)).2 = true
  · rw [if_pos hb, if_pos hb]
    have := rest_shift (D := D) (n := n) (i := i) (s := (p2 (fun k => D (i + k)) (n - i) (p1 (fun k => D (i + k)) (n - i) s)).1) (by omega)
    rw [Nat.add_comm i] at this
    exact this
  · rw [if_neg hb, if_neg hb]; rfl

end Go.Proofs.Qxb6604268a
