/-
  Seat b6604273a: a radix sort by buckets, plain.
-/
import Derived.Test.Qxb6604273aPlainA
namespace Go.Proofs.Qxb6604273a

/-- How many elements of l have the digit v. -/
def cnt (d : Nat → Nat) (v : Nat) (l : List Nat) : Nat := (fl d v l).length
/-- Where the bucket of v begins. -/
def st (d : Nat → Nat) (l : List Nat) : Nat → Nat
  | 0 => 0
  | v + 1 => st d l v + cnt d v l
/-- The buckets below m, one behind the other. -/
def bk (d : Nat → Nat) (l : List Nat) : Nat → List Nat
  | 0 => []
  | m + 1 => bk d l m ++ fl d m l

theorem bk_length (d : Nat → Nat) (l : List Nat) : ∀ m, (bk d l m).length = st d l m
  | 0 => rfl
  | m + 1 => by simp [bk, st, bk_length d l m, cnt]

theorem st_mono (d : Nat → Nat) (l : List Nat) {u v : Nat} (h : u ≤ v) : st d l u ≤ st d l v := by
  induction v with
  | zero => have : u = 0 := by omega
            subst this; exact Nat.le_refl _
  | succ v ih =>
    by_cases e : u = v + 1
    · subst e; exact Nat.le_refl _
    · have := ih (by omega); simp only [st]; omega

theorem bk_at (d : Nat → Nat) (l : List Nat) (v r : Nat) (hr : r < cnt d v l) : ∀ m, v < m → (bk d l m)[st d l v + r]? = (fl d v l)[r]? := by
  intro m
  induction m with
  | zero => intro h; omega
  | succ m ih =>
    intro h
    simp only [bk]
    have hl := bk_length d l m
    by_cases e : v = m
    · subst e
      rw [List.getElem?_append_right (by omega), hl, Nat.add_sub_cancel_left]
    · have h1 : st d l (v + 1) ≤ st d l m := st_mono d l (by omega)
      simp only [st] at h1
      rw [List.getElem?_append_left (by omega)]
      exact ih (by omega)

theorem bk_fl (d : Nat → Nat) (l : List Nat) (v : Nat) : ∀ m, fl d v (bk d l m) = if v < m then fl d v l else [] := by
  intro m
  induction m with
  | zero => simp [bk, fl_nil]
  | succ m ih =>
    simp only [bk, fl_app, ih]
    by_cases e : v = m
    · subst e
      have : fl d v (fl d v l) = fl d v l := by simp [fl]
      rw [if_neg (by omega), if_pos (by omega), this]; rfl
    · have : fl d v (fl d m l) = [] := fl_none (fun x hx => by rw [(mem_fl.1 hx).2]; omega)
      rw [this, List.append_nil]
      by_cases c : v < m
      · rw [if_pos c, if_pos (by omega)]
      · rw [if_neg c, if_neg (by omega)]

theorem bk_srt (d : Nat → Nat) (l : List Nat) : ∀ m, Srt d (bk d l m) ∧ ∀ x ∈ bk d l m, d x < m := by
  intro m
  induction m with
  | zero => exact ⟨List.Pairwise.nil, fun x hx => by cases hx⟩
  | succ m ih =>
    simp only [bk]
    refine ⟨List.pairwise_append.2 ⟨ih.1, ?_, fun x hx y hy => ?_⟩, fun x hx => ?_⟩
    · exact List.pairwise_of_forall_mem_list (fun x hx y hy => by rw [(mem_fl.1 hx).2, (mem_fl.1 hy).2]; exact Nat.le_refl _)
    · have := ih.2 x hx; rw [(mem_fl.1 hy).2]; omega
    · rcases List.mem_append.1 hx with q | q
      · have := ih.2 x q; omega
      · rw [(mem_fl.1 q).2]; omega

theorem bk_stable (d : Nat → Nat) (l : List Nat) (m : Nat) (hd : ∀ x ∈ l, d x < m) : Stable d l (bk d l m) := by
  refine ⟨(bk_srt d l m).1, fun v => ?_⟩
  rw [bk_fl]
  by_cases c : v < m
  · rw [if_pos c]
  · rw [if_neg c, fl_none (fun x hx => by have := hd x hx; omega)]

/-- Two stable sorts, one behind the other. -/
theorem stable_next {g d : Nat → Nat} {M : Nat} {K A A' : List Nat} (hg : ∀ x, g x < M) (s : Stable g K A) (s' : Stable d A A') : Stable (fun x => g x + M * d x) K A' := by
  refine ⟨?_, fun v => ?_⟩
  · have p1 : A'.Pairwise (fun x y => d x ≤ d y) := s'.1
    have p2 : ∀ u, A'.Pairwise (fun x y => (d x == u) = true → (d y == u) = true → g x ≤ g y) := fun u => by
      have h1 : (fl d u A').Pairwise (fun x y => g x ≤ g y) := by
        rw [s'.2 u]
        exact List.Pairwise.sublist List.filter_sublist s.1
      unfold fl at h1
      rw [List.pairwise_filter] at h1
      exact h1
    rw [List.pairwise_iff_getElem] at p1
    unfold Srt
    rw [List.pairwise_iff_getElem]
    intro i j hi hj hij
    have q1 := p1 i j hi hj hij
    have q2 := p2 (d A'[i])
    rw [List.pairwise_iff_getElem] at q2
    have q3 : d A'[j] = d A'[i] → g A'[i] ≤ g A'[j] := fun e => q2 i j hi hj hij (by simp) (by simp [e])
    show g A'[i] + M * d A'[i] ≤ g A'[j] + M * d A'[j]
    by_cases e : d A'[j] = d A'[i]
    · have := q3 e
      rw [e]; omega
    · have lt : d A'[i] + 1 ≤ d A'[j] := by omega
      have a1 := hg A'[i]
      have a2 : M * (d A'[i] + 1) ≤ M * d A'[j] := Nat.mul_le_mul_left _ lt
      rw [Nat.mul_add, Nat.mul_one] at a2
      omega
  · have key : ∀ l : List Nat, fl (fun x => g x + M * d x) v l = fl g (v % M) (fl d (v / M) l) := fun l => by
      unfold fl
      rw [List.filter_filter]
      refine List.filter_congr (fun x _ => ?_)
      have a1 := hg x
      rw [Bool.eq_iff_iff]
      simp only [beq_iff_eq, Bool.and_eq_true]
      constructor
      · intro e
        rw [← e, Nat.add_mul_mod_self_left, Nat.mod_eq_of_lt a1, Nat.add_mul_div_left _ _ (by omega), Nat.div_eq_of_lt a1, Nat.zero_add]
        exact ⟨rfl, rfl⟩
      · rintro ⟨e1, e2⟩
        rw [e1, e2]
        exact Nat.mod_add_div v M
    have sw : ∀ (a b : Nat) (l : List Nat), fl g a (fl d b l) = fl d b (fl g a l) := fun a b l => by
      unfold fl
      rw [List.filter_filter, List.filter_filter]
      exact List.filter_congr (fun x _ => Bool.and_comm _ _)
    rw [key, key, s'.2, sw, s.2, sw]

/-! ### what the third loop places -/
theorem fl_len_le (d : Nat → Nat) (v : Nat) (l : List Nat) (k : Nat) : cnt d v (l.take k) ≤ cnt d v l := by
  have : fl d v l = fl d v (l.take k) ++ fl d v (l.drop k) := by rw [← fl_app, List.take_append_drop]
  unfold cnt
  rw [this, List.length_append]; omega

theorem cnt_step {d : Nat → Nat} {v : Nat} {l : List Nat} {k : Nat} (hk : k < l.length) : cnt d v (l.take (k + 1)) = cnt d v (l.take k) + if d l[k] = v then 1 else 0 := by
  unfold cnt
  rw [List.take_succ_eq_append_getElem hk, fl_app, List.length_append]
  by_cases e : d l[k] = v
  · rw [if_pos e, fl_hit e]; rfl
  · rw [if_neg e, fl_miss e]; rfl

theorem cnt_lt {d : Nat → Nat} {l : List Nat} {k : Nat} (hk : k < l.length) : cnt d (d l[k]) (l.take k) < cnt d (d l[k]) l := by
  have h1 := cnt_step (d := d) (v := d l[k]) hk
  have h2 := fl_len_le d (d l[k]) l (k + 1)
  rw [if_pos rfl] at h1
  omega

theorem fl_at {d : Nat → Nat} {l : List Nat} {k : Nat} (hk : k < l.length) : (fl d (d l[k]) l)[cnt d (d l[k]) (l.take k)]? = some l[k] := by
  have e : fl d (d l[k]) l = fl d (d l[k]) (l.take k) ++ (l[k] :: fl d (d l[k]) (l.drop (k + 1))) := by
    rw [← fl_hit (h := d) (v := d l[k]) (x := l[k]) rfl, ← fl_app, ← List.drop_eq_getElem_cons hk, List.take_append_drop]
  rw [e]
  unfold cnt
  rw [List.getElem?_append_right (Nat.le_refl _), Nat.sub_self]
  rfl

/-- The place at which the k-th key is laid, and that it is the right one. -/
theorem place {d : Nat → Nat} {l : List Nat} {k m : Nat} (hk : k < l.length) (hm : d l[k] < m) : (bk d l m)[st d l (d l[k]) + cnt d (d l[k]) (l.take k)]? = some l[k] := by
  rw [bk_at d l _ _ (cnt_lt hk) m hm]
  exact fl_at hk

theorem st_total (d : Nat → Nat) (l : List Nat) (m : Nat) (hd : ∀ x ∈ l, d x < m) : st d l m = l.length := by
  induction l with
  | nil =>
    have : ∀ m, st d [] m = 0 := fun m => by
      induction m with
      | zero => rfl
      | succ m ih => simp [st, ih, cnt, fl_nil]
    rw [this]; rfl
  | cons x l ih =>
    have hl := ih (fun y hy => hd y (List.mem_cons_of_mem _ hy))
    have hx := hd x List.mem_cons_self
    have key : ∀ k, st d (x :: l) k = st d l k + if d x < k then 1 else 0 := fun k => by
      induction k with
      | zero => simp [st]
      | succ k ihk =>
        simp only [st, ihk]
        unfold cnt
        by_cases e : d x = k
        · rw [fl_hit e, if_neg (by omega), if_pos (by omega)]; simp; omega
        · rw [fl_miss e]
          by_cases c : d x < k
          · rw [if_pos c, if_pos (by omega)]; omega
          · rw [if_neg c, if_neg (by omega)]; omega
    rw [key, hl, if_pos hx]; rfl

/-- Which places are filled behind k keys. -/
def Filled (d : Nat → Nat) (l : List Nat) (m k q : Nat) : Prop := ∃ v r, v < m ∧ r < cnt d v (l.take k) ∧ q = st d l v + r

theorem filled_zero {d : Nat → Nat} {l : List Nat} {m q : Nat} (h : Filled d l m 0 q) : False := by
  obtain ⟨v, r, _, hr, _⟩ := h
  simp [cnt, fl_nil] at hr

theorem filled_step {d : Nat → Nat} {l : List Nat} {m k q : Nat} (hk : k < l.length) (h : Filled d l m (k + 1) q) : Filled d l m k q ∨ q = st d l (d l[k]) + cnt d (d l[k]) (l.take k) := by
  obtain ⟨v, r, hv, hr, rfl⟩ := h
  rw [cnt_step hk] at hr
  by_cases e : d l[k] = v
  · subst e
    rw [if_pos rfl] at hr
    by_cases c : r < cnt d (d l[k]) (l.take k)
    · exact .inl ⟨_, r, hv, c, rfl⟩
    · right; congr 1; omega
  · rw [if_neg e] at hr
    exact .inl ⟨v, r, hv, hr, rfl⟩

theorem filled_all {d : Nat → Nat} {l : List Nat} {m q : Nat} (hq : q < st d l m) : Filled d l m l.length q := by
  induction m with
  | zero => simp [st] at hq
  | succ m ih =>
    by_cases c : q < st d l m
    · obtain ⟨v, r, hv, hr, e⟩ := ih c
      exact ⟨v, r, by omega, hr, e⟩
    · simp only [st] at hq
      exact ⟨m, q - st d l m, by omega, by rw [List.take_length]; omega, by omega⟩

/-! ### the digits -/
/-- The part below the digits that are still to come. -/
def low8 (lo t : Nat) (k : Nat) : Nat := (k / 2 ^ lo) % 2 ^ (8 * t)
def dgt (sh : Nat) (k : Nat) : Nat := (k / 2 ^ sh) % 256
def hi (lo : Nat) (k : Nat) : Nat := k / 2 ^ lo

theorem dgt_lt (sh k : Nat) : dgt sh k < 256 := Nat.mod_lt _ (by decide)

theorem low8_zero (lo : Nat) (K : List Nat) : Stable (low8 lo 0) K K := by
  have e : ∀ x, low8 lo 0 x = 0 := fun x => by simp [low8, Nat.mod_one]
  exact ⟨List.pairwise_of_forall_mem_list (fun x _ y _ => by rw [e, e]; exact Nat.le_refl _), fun v => rfl⟩

theorem low8_next {lo t : Nat} {K A A' : List Nat} (s : Stable (low8 lo t) K A) (s' : Stable (dgt (lo + 8 * t)) A A') : Stable (low8 lo (t + 1)) K A' := by
  have hM : 0 < 2 ^ (8 * t) := Nat.pow_pos (by decide)
  have h := stable_next (g := low8 lo t) (M := 2 ^ (8 * t)) (fun x => Nat.mod_lt _ hM) s s'
  have e : (fun x => low8 lo t x + 2 ^ (8 * t) * dgt (lo + 8 * t) x) = low8 lo (t + 1) := by
    funext x
    unfold low8 dgt
    rw [show 8 * (t + 1) = 8 * t + 8 by omega, Nat.pow_add 2 (8 * t) 8, Nat.mod_mul, Nat.pow_add 2 lo (8 * t), ← Nat.div_div_eq_div_mul]
  rw [e] at h
  exact h

theorem low8_done {lo t : Nat} {K A : List Nat} (s : Stable (low8 lo t) K A) (hz : ∀ x ∈ K, x / 2 ^ (lo + 8 * t) = 0) : Stable (hi lo) K A := by
  refine stable_congr s (fun x hx => ?_)
  have h := hz x hx
  rw [Nat.pow_add, ← Nat.div_div_eq_div_mul] at h
  have hM : 0 < 2 ^ (8 * t) := Nat.pow_pos (by decide)
  have : x / 2 ^ lo < 2 ^ (8 * t) := by
    rcases Nat.div_eq_zero_iff.1 h with q | q
    · omega
    · exact q
  unfold low8 hi
  exact Nat.mod_eq_of_lt this

/-- The or of all keys, shifted: nought just if each is. -/
def orAll : List Nat → Nat → Nat
  | [], a => a
  | x :: l, a => orAll l (a ||| x)

theorem or_div (a b s : Nat) : (a ||| b) / 2 ^ s = a / 2 ^ s ||| b / 2 ^ s := by
  rw [← Nat.shiftRight_eq_div_pow, ← Nat.shiftRight_eq_div_pow, ← Nat.shiftRight_eq_div_pow, Nat.shiftRight_or_distrib]

theorem or_zero {a b : Nat} (h : a ||| b = 0) : a = 0 ∧ b = 0 := by
  have h1 : a ≤ a ||| b := Nat.left_le_or
  have h2 : b ≤ a ||| b := Nat.right_le_or
  omega

theorem orAll_zero (s : Nat) : ∀ (l : List Nat) (a : Nat), orAll l a / 2 ^ s = 0 → a / 2 ^ s = 0 ∧ ∀ x ∈ l, x / 2 ^ s = 0 := by
  intro l
  induction l with
  | nil => intro a h; exact ⟨h, fun x hx => by cases hx⟩
  | cons y l ih =>
    intro a h
    obtain ⟨h1, h2⟩ := ih _ h
    rw [or_div] at h1
    obtain ⟨h3, h4⟩ := or_zero h1
    refine ⟨h3, fun x hx => ?_⟩
    rcases List.mem_cons.1 hx with q | q
    · rw [q]; exact h4
    · exact h2 x q

theorem orAll_lt : ∀ (l : List Nat) (a : Nat), a < 2 ^ 64 → (∀ x ∈ l, x < 2 ^ 64) → orAll l a < 2 ^ 64 := by
  intro l
  induction l with
  | nil => intro a h _; exact h
  | cons y l ih =>
    intro a h hl
    exact ih _ (Nat.or_lt_two_pow h (hl y List.mem_cons_self)) (fun x hx => hl x (List.mem_cons_of_mem _ hx))

theorem orAll_snoc (x : Nat) : ∀ (l : List Nat) (a : Nat), orAll (l ++ [x]) a = orAll l a ||| x := by
  intro l
  induction l with
  | nil => intro a; rfl
  | cons y l ih => intro a; exact ih _

end Go.Proofs.Qxb6604273a
