/-
  Seat b6604273a: stable sorts of lists of numbers, plain: no Go in sight. Uniqueness; merging; a bottom-up merge sort.
-/
namespace Go.Proofs.Qxb6604273a

def Srt (h : Nat → Nat) (l : List Nat) : Prop := l.Pairwise (fun x y => h x ≤ h y)
/-- The elements of l whose part is v, in their order. -/
def fl (h : Nat → Nat) (v : Nat) (l : List Nat) : List Nat := l.filter (fun x => h x == v)
/-- A is K stably sorted by h. -/
def Stable (h : Nat → Nat) (K A : List Nat) : Prop := Srt h A ∧ ∀ v, fl h v A = fl h v K

theorem fl_nil (h : Nat → Nat) (v : Nat) : fl h v [] = [] := rfl
theorem fl_app (h : Nat → Nat) (v : Nat) (a b : List Nat) : fl h v (a ++ b) = fl h v a ++ fl h v b := by simp [fl]
theorem fl_hit {h : Nat → Nat} {v x : Nat} {l : List Nat} (e : h x = v) : fl h v (x :: l) = x :: fl h v l := by simp [fl, e]
theorem fl_miss {h : Nat → Nat} {v x : Nat} {l : List Nat} (e : ¬ h x = v) : fl h v (x :: l) = fl h v l := by simp [fl, e]
theorem mem_fl {h : Nat → Nat} {v x : Nat} {l : List Nat} : x ∈ fl h v l ↔ x ∈ l ∧ h x = v := by simp [fl]
theorem fl_none {h : Nat → Nat} {v : Nat} {l : List Nat} (e : ∀ x ∈ l, ¬ h x = v) : fl h v l = [] := by
  unfold fl
  rw [List.filter_eq_nil_iff]
  intro x hx
  simpa using e x hx

theorem stable_mem {h : Nat → Nat} {K A : List Nat} (s : Stable h K A) {x : Nat} (hx : x ∈ A) : x ∈ K := by
  have : x ∈ fl h (h x) A := mem_fl.2 ⟨hx, rfl⟩
  rw [s.2] at this
  exact (mem_fl.1 this).1

theorem srt_unique (h : Nat → Nat) : ∀ (A B : List Nat), Srt h A → Srt h B → (∀ v, fl h v A = fl h v B) → A = B := by
  intro A
  induction A with
  | nil =>
    intro B _ _ e
    cases B with
    | nil => rfl
    | cons y B =>
      have := e (h y)
      rw [fl_nil, fl_hit rfl] at this
      cases this
  | cons x A ih =>
    intro B sA sB e
    cases B with
    | nil =>
      have := e (h x)
      rw [fl_nil, fl_hit rfl] at this
      cases this
    | cons y B =>
      have pA := List.pairwise_cons.1 sA
      have pB := List.pairwise_cons.1 sB
      have mx : x ∈ fl h (h x) (y :: B) := by rw [← e]; exact mem_fl.2 ⟨List.mem_cons_self, rfl⟩
      have my : y ∈ fl h (h y) (x :: A) := by rw [e]; exact mem_fl.2 ⟨List.mem_cons_self, rfl⟩
      have h1 : h y ≤ h x := by
        rcases List.mem_cons.1 (mem_fl.1 mx).1 with q | q
        · rw [q]; exact Nat.le_refl _
        · exact pB.1 x q
      have h2 : h x ≤ h y := by
        rcases List.mem_cons.1 (mem_fl.1 my).1 with q | q
        · rw [q]; exact Nat.le_refl _
        · exact pA.1 y q
      have hh : h y = h x := by omega
      have e1 := e (h x)
      rw [fl_hit rfl, fl_hit hh] at e1
      obtain ⟨rfl, _⟩ := List.cons.inj e1
      refine congrArg (x :: ·) (ih B pA.2 pB.2 fun v => ?_)
      have ev := e v
      by_cases q : h x = v
      · rw [fl_hit q, fl_hit q] at ev
        exact (List.cons.inj ev).2
      · rw [fl_miss q, fl_miss q] at ev
        exact ev

theorem stable_unique {h : Nat → Nat} {K A B : List Nat} (a : Stable h K A) (b : Stable h K B) : A = B :=
  srt_unique h A B a.1 b.1 fun v => by rw [a.2, b.2]

theorem stable_congr {g h : Nat → Nat} {K A : List Nat} (s : Stable g K A) (e : ∀ x ∈ K, g x = h x) : Stable h K A := by
  have eA : ∀ x ∈ A, g x = h x := fun x hx => e x (stable_mem s hx)
  refine ⟨?_, fun v => ?_⟩
  · have p := s.1
    unfold Srt at p ⊢
    rw [List.pairwise_iff_getElem] at p ⊢
    intro i j hi hj hij
    rw [← eA _ (List.getElem_mem hi), ← eA _ (List.getElem_mem hj)]
    exact p i j hi hj hij
  · have h1 : fl h v A = fl g v A := List.filter_congr (fun x hx => by rw [eA x hx])
    have h2 : fl h v K = fl g v K := List.filter_congr (fun x hx => by rw [e x hx])
    rw [h1, h2, s.2]

/-! ### merging -/
def mrgF (h : Nat → Nat) : Nat → List Nat → List Nat → List Nat
  | 0, _, _ => []
  | _ + 1, [], B => B
  | _ + 1, a :: A, [] => a :: A
  | f + 1, a :: A, b :: B => if h b < h a then b :: mrgF h f (a :: A) B else a :: mrgF h f A (b :: B)
def mrg (h : Nat → Nat) (A B : List Nat) : List Nat := mrgF h (A.length + B.length) A B

theorem mrg_nil_left (h : Nat → Nat) (B : List Nat) : mrg h [] B = B := by
  cases B with
  | nil => rfl
  | cons b B => simp [mrg, mrgF]
theorem mrg_nil_right (h : Nat → Nat) (A : List Nat) : mrg h A [] = A := by
  cases A with
  | nil => rfl
  | cons a A => simp [mrg, mrgF]
theorem mrg_second {h : Nat → Nat} {a b : Nat} {A B : List Nat} (c : h b < h a) : mrg h (a :: A) (b :: B) = b :: mrg h (a :: A) B := by
  have e : (a :: A).length + (b :: B).length = ((a :: A).length + B.length) + 1 := by simp; omega
  unfold mrg
  rw [e]
  simp [mrgF, c]
theorem mrg_first {h : Nat → Nat} {a b : Nat} {A B : List Nat} (c : ¬ h b < h a) : mrg h (a :: A) (b :: B) = a :: mrg h A (b :: B) := by
  have e : (a :: A).length + (b :: B).length = (A.length + (b :: B).length) + 1 := by simp; omega
  unfold mrg
  rw [e]
  simp [mrgF, c]

/-- All that is said of a merge, by one induction. -/
theorem mrg_facts (h : Nat → Nat) : ∀ (n : Nat) (A B : List Nat), A.length + B.length = n →
    (mrg h A B).length = n ∧ (∀ z, z ∈ mrg h A B ↔ z ∈ A ∨ z ∈ B) ∧ (Srt h A → Srt h B → Srt h (mrg h A B) ∧ ∀ v, fl h v (mrg h A B) = fl h v A ++ fl h v B) := by
  intro n
  induction n with
  | zero =>
    intro A B e
    have ea : A = [] := List.length_eq_zero_iff.1 (by omega)
    have eb : B = [] := List.length_eq_zero_iff.1 (by omega)
    subst ea; subst eb
    exact ⟨rfl, fun z => by simp [mrg_nil_left], fun _ sB => ⟨by rw [mrg_nil_left]; exact sB, fun v => by rw [mrg_nil_left]; rfl⟩⟩
  | succ n ih =>
    intro A B e
    cases A with
    | nil => rw [mrg_nil_left]; exact ⟨by simpa using e, fun z => by simp, fun _ sB => ⟨sB, fun v => rfl⟩⟩
    | cons a A =>
      cases B with
      | nil => rw [mrg_nil_right]; exact ⟨by simpa using e, fun z => by simp, fun sA _ => ⟨sA, fun v => by simp [fl_nil]⟩⟩
      | cons b B =>
        by_cases c : h b < h a
        · obtain ⟨l, m, s⟩ := ih (a :: A) B (by simp at e ⊢; omega)
          rw [mrg_second c]
          refine ⟨by simp [l], fun z => ?_, fun sA sB => ?_⟩
          · rw [List.mem_cons, m]; simp only [List.mem_cons]
            constructor
            · rintro (q | q | q)
              · exact .inr (.inl q)
              · exact .inl q
              · exact .inr (.inr q)
            · rintro (q | q | q)
              · exact .inr (.inl q)
              · exact .inl q
              · exact .inr (.inr q)
          · have pA := List.pairwise_cons.1 sA
            have pB := List.pairwise_cons.1 sB
            obtain ⟨s1, s2⟩ := s sA pB.2
            refine ⟨List.pairwise_cons.2 ⟨fun z hz => ?_, s1⟩, fun v => ?_⟩
            · rcases (m z).1 hz with q | q
              · rcases List.mem_cons.1 q with q | q
                · rw [q]; omega
                · have := pA.1 z q; omega
              · exact pB.1 z q
            · by_cases q : h b = v
              · have en : fl h v (a :: A) = [] := fl_none (fun x hx => by
                  rcases List.mem_cons.1 hx with r | r
                  · rw [r]; omega
                  · have := pA.1 x r; omega)
                rw [fl_hit q, s2, fl_hit q, en]; rfl
              · rw [fl_miss q, s2, fl_miss q]
        · obtain ⟨l, m, s⟩ := ih A (b :: B) (by simp at e ⊢; omega)
          rw [mrg_first c]
          refine ⟨by simp [l], fun z => ?_, fun sA sB => ?_⟩
          · rw [List.mem_cons, m]; simp only [List.mem_cons]
            constructor
            · rintro (q | q | q)
              · exact .inl (.inl q)
              · exact .inl (.inr q)
              · exact .inr q
            · rintro ((q | q) | q)
              · exact .inl q
              · exact .inr (.inl q)
              · exact .inr (.inr q)
          · have pA := List.pairwise_cons.1 sA
            have pB := List.pairwise_cons.1 sB
            obtain ⟨s1, s2⟩ := s pA.2 sB
            refine ⟨List.pairwise_cons.2 ⟨fun z hz => ?_, s1⟩, fun v => ?_⟩
            · rcases (m z).1 hz with q | q
              · exact pA.1 z q
              · rcases List.mem_cons.1 q with q | q
                · rw [q]; omega
                · have := pB.1 z q; omega
            · by_cases q : h a = v
              · rw [fl_hit q, s2, fl_hit q]; rfl
              · rw [fl_miss q, s2, fl_miss q]

theorem mrg_length (h : Nat → Nat) (A B : List Nat) : (mrg h A B).length = A.length + B.length := (mrg_facts h _ A B rfl).1
theorem mrg_srt {h : Nat → Nat} {A B : List Nat} (a : Srt h A) (b : Srt h B) : Srt h (mrg h A B) := ((mrg_facts h _ A B rfl).2.2 a b).1
theorem mrg_fl {h : Nat → Nat} {A B : List Nat} (a : Srt h A) (b : Srt h B) (v : Nat) : fl h v (mrg h A B) = fl h v A ++ fl h v B := ((mrg_facts h _ A B rfl).2.2 a b).2 v

/-! ### one pass over blocks of width w -/
def pass (h : Nat → Nat) (w : Nat) : Nat → List Nat → List Nat
  | 0, _ => []
  | f + 1, A => mrg h (A.take w) ((A.drop w).take w) ++ pass h w f (A.drop (2 * w))

theorem pass_nil (h : Nat → Nat) (w : Nat) : ∀ f, pass h w f [] = []
  | 0 => rfl
  | f + 1 => by simp [pass, mrg_nil_left, pass_nil h w f]

theorem pass_length (h : Nat → Nat) (w : Nat) (hw : 0 < w) : ∀ (f : Nat) (A : List Nat), A.length ≤ f → (pass h w f A).length = A.length := by
  intro f
  induction f with
  | zero => intro A e; have : A = [] := List.length_eq_zero_iff.1 (by omega); subst this; rfl
  | succ f ih =>
    intro A e
    by_cases h0 : A = []
    · subst h0; rw [pass_nil]
    · have hl : 0 < A.length := List.length_pos_iff.2 h0
      simp only [pass, List.length_append, mrg_length]
      rw [ih _ (by simp; omega)]
      simp
      omega

/-- Each block of width w is sorted. -/
def Blocks (h : Nat → Nat) (w : Nat) (A : List Nat) : Prop := ∀ k, Srt h ((A.drop (k * w)).take w)

theorem blocks_one (h : Nat → Nat) (A : List Nat) : Blocks h 1 A := fun k => by
  generalize hL : (A.drop (k * 1)).take 1 = L
  have : L.length ≤ 1 := by rw [← hL]; simp; omega
  match L, this with
  | [], _ => exact List.Pairwise.nil
  | [x], _ => exact List.pairwise_singleton _ _

theorem pass_fl (h : Nat → Nat) (w : Nat) (hw : 0 < w) (v : Nat) : ∀ (f : Nat) (A : List Nat), A.length ≤ f → Blocks h w A → fl h v (pass h w f A) = fl h v A := by
  intro f
  induction f with
  | zero => intro A e _; have : A = [] := List.length_eq_zero_iff.1 (by omega); subst this; rfl
  | succ f ih =>
    intro A e b
    by_cases h0 : A = []
    · subst h0; rw [pass_nil]
    · have hl : 0 < A.length := List.length_pos_iff.2 h0
      have b0 := b 0
      have b1 := b 1
      rw [Nat.zero_mul, List.drop_zero] at b0
      rw [Nat.one_mul] at b1
      have b2 : Blocks h w (A.drop (2 * w)) := fun k => by
        have := b (k + 2)
        rw [List.drop_drop]
        rw [show 2 * w + k * w = (k + 2) * w by rw [Nat.add_mul]; omega]
        exact this
      simp only [pass, fl_app]
      rw [mrg_fl b0 b1, ih _ (by simp; omega) b2, ← fl_app, ← fl_app]
      congr 1
      rw [show (2 * w) = w + w by omega, ← List.drop_drop, List.append_assoc, List.take_append_drop, List.take_append_drop]

theorem pass_blocks (h : Nat → Nat) (w : Nat) (hw : 0 < w) : ∀ (f : Nat) (A : List Nat), A.length ≤ f → Blocks h w A → Blocks h (2 * w) (pass h w f A) := by
  intro f
  induction f with
  | zero => intro A e _ k; have : A = [] := List.length_eq_zero_iff.1 (by omega); subst this; simp [pass, Srt]
  | succ f ih =>
    intro A e b k
    by_cases h0 : A = []
    · subst h0; rw [pass_nil]; simp [Srt]
    · have hl : 0 < A.length := List.length_pos_iff.2 h0
      have b0 := b 0
      have b1 := b 1
      rw [Nat.zero_mul, List.drop_zero] at b0
      rw [Nat.one_mul] at b1
      have b2 : Blocks h w (A.drop (2 * w)) := fun k => by
        have := b (k + 2)
        rw [List.drop_drop]
        rw [show 2 * w + k * w = (k + 2) * w by rw [Nat.add_mul]; omega]
        exact this
      have hs := mrg_srt b0 b1
      have hm : (mrg h (A.take w) ((A.drop w).take w)).length = min (2 * w) A.length := by rw [mrg_length]; simp; omega
      simp only [pass]
      by_cases hlt : A.length < 2 * w
      · have e2 : A.drop (2 * w) = [] := List.drop_eq_nil_of_le (by omega)
        rw [e2, pass_nil, List.append_nil]
        cases k with
        | zero => rw [Nat.zero_mul, List.drop_zero, List.take_of_length_le (by omega)]; exact hs
        | succ k =>
          rw [List.drop_eq_nil_of_le (by
            have : 2 * w ≤ (k + 1) * (2 * w) := Nat.le_mul_of_pos_left _ (by omega)
            omega)]
          simp [Srt]
      · have hm2 : (mrg h (A.take w) ((A.drop w).take w)).length = 2 * w := by omega
        cases k with
        | zero => rw [Nat.zero_mul, List.drop_zero, List.take_append_of_le_length (by omega), List.take_of_length_le (by omega)]; exact hs
        | succ k =>
          have e3 : (mrg h (A.take w) ((A.drop w).take w)).drop (2 * w) = [] := List.drop_eq_nil_of_le (by omega)
          rw [show (k + 1) * (2 * w) = 2 * w + k * (2 * w) by rw [Nat.add_mul]; omega, ← List.drop_drop, List.drop_append_of_le_length (by omega), e3, List.nil_append]
          exact ih _ (by simp; omega) b2 k

theorem blocks_all {h : Nat → Nat} {w : Nat} {A : List Nat} (b : Blocks h w A) (hl : A.length ≤ w) : Srt h A := by
  have := b 0
  rw [Nat.zero_mul, List.drop_zero, List.take_of_length_le hl] at this
  exact this

end Go.Proofs.Qxb6604273a
