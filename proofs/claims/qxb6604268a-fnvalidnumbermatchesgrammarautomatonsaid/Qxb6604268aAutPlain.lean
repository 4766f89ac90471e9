/-
  Seat b6604268a: the automaton, plain: validNumber's answer is the automaton's.
-/
import Derived.Test.Qxb6604268aNumPlain
namespace Go.Proofs.Qxb6604268a

/-- numberStep. -/
def stp (st c : Int) : Int :=
  if st = 0 then (if c = 45 then 1 else if c = 48 then 2 else if 49 ≤ c ∧ c ≤ 57 then 3 else -1)
  else if st = 1 then (if c = 48 then 2 else if 49 ≤ c ∧ c ≤ 57 then 3 else -1)
  else if st = 2 then (if c = 46 then 4 else if c = 101 ∨ c = 69 then 6 else -1)
  else if st = 3 then (if 48 ≤ c ∧ c ≤ 57 then 3 else if c = 46 then 4 else if c = 101 ∨ c = 69 then 6 else -1)
  else if st = 4 then (if 48 ≤ c ∧ c ≤ 57 then 5 else -1)
  else if st = 5 then (if 48 ≤ c ∧ c ≤ 57 then 5 else if c = 101 ∨ c = 69 then 6 else -1)
  else if st = 6 then (if c = 43 ∨ c = 45 then 7 else if 48 ≤ c ∧ c ≤ 57 then 8 else -1)
  else if st = 7 then (if 48 ≤ c ∧ c ≤ 57 then 8 else -1)
  else if st = 8 then (if 48 ≤ c ∧ c ≤ 57 then 8 else -1)
  else -1

/-- numberAccepting. -/
def acc (st : Int) : Bool := st == 2 || st == 3 || st == 5 || st == 8

theorem stp_range (st c : Int) : -1 ≤ stp st c ∧ stp st c ≤ 8 := by
  unfold stp
  repeat' split
  all_goals omega

/-- numberModel's loop, with so many rounds to come. -/
def runF (D : Nat → Int) : Nat → Int → Nat → Nat × Int
  | 0, st, p => (p, st)
  | f + 1, st, p => if stp st (D p) = -1 then (p, st) else runF D f (stp st (D p)) (p + 1)

def run (D : Nat → Int) (n : Nat) (st : Int) (p : Nat) : Nat × Int := runF D (n - p) st p

theorem run_end {D : Nat → Int} {n : Nat} {st : Int} {p : Nat} (h : ¬ p < n) : run D n st p = (p, st) := by
  unfold run
  rw [show n - p = 0 by omega]; rfl
theorem run_no {D : Nat → Int} {n : Nat} {st : Int} {p : Nat} (h : p < n) (hs : stp st (D p) = -1) : run D n st p = (p, st) := by
  unfold run
  rw [show n - p = (n - p - 1) + 1 by omega]; simp [runF, hs]
theorem run_go {D : Nat → Int} {n : Nat} {st : Int} {p : Nat} (h : p < n) (hs : ¬ stp st (D p) = -1) : run D n st p = run D n (stp st (D p)) (p + 1) := by
  unfold run
  rw [show n - p = (n - (p + 1)) + 1 by omega]; simp [runF, hs]

/-- What numberModel answers from a state. -/
def out (D : Nat → Int) (n : Nat) (st : Int) (p : Nat) : Nat × Bool := ((run D n st p).1, acc (run D n st p).2)

theorem out_end {D : Nat → Int} {n : Nat} {st : Int} {p : Nat} (h : ¬ p < n) : out D n st p = (p, acc st) := by unfold out; rw [run_end h]
theorem out_no {D : Nat → Int} {n : Nat} {st : Int} {p : Nat} (h : p < n) (hs : stp st (D p) = -1) : out D n st p = (p, acc st) := by unfold out; rw [run_no h hs]
theorem out_go {D : Nat → Int} {n : Nat} {st : Int} {p : Nat} (t : Int) (h : p < n) (hs : stp st (D p) = t) (ht : ¬ t = -1) : out D n st p = out D n t (p + 1) := by unfold out; rw [run_go h (by rw [hs]; exact ht), hs]

theorem dig_true {c : Int} (h1 : 48 ≤ c) (h2 : c ≤ 57) : dig c = true := (dig_iff c).2 ⟨h1, h2⟩
theorem dig_not {c : Int} (h : ¬ (48 ≤ c ∧ c ≤ 57)) : ¬ dig c = true := fun e => h ((dig_iff c).1 e)

theorem out8 (D : Nat → Int) (n : Nat) : ∀ m p, n - p = m → out D n 8 p = (skip D n p, true) := by
  intro m
  induction m with
  | zero =>
    intro p h
    rw [out_end (by omega), skip_stop (by omega)]; rfl
  | succ m ih =>
    intro p h
    by_cases c : 48 ≤ D p ∧ D p ≤ 57
    · rw [out_go 8 (by omega) (by simp [stp, c.1, c.2]) (by omega), ih (p + 1) (by omega), skip_step (by omega) (dig_true c.1 c.2)]
    · rw [out_no (by omega) (by simp [stp]; omega), skip_stop (fun h => dig_not c h.2)]; rfl

theorem out7 (D : Nat → Int) (n p : Nat) : out D n 7 p = (skip D n p, decide (skip D n p ≠ p)) := by
  by_cases hp : p < n
  · by_cases c : 48 ≤ D p ∧ D p ≤ 57
    · have g := skip_ge D n (p + 1)
      rw [out_go 8 hp (by simp [stp, c.1, c.2]) (by omega), out8 D n _ _ rfl, skip_step hp (dig_true c.1 c.2)]
      simp; omega
    · rw [out_no hp (by simp [stp]; omega), skip_stop (fun h => dig_not c h.2)]; simp [acc]
  · rw [out_end hp, skip_stop (fun h => hp h.1)]; simp [acc]

theorem out6 (D : Nat → Int) (n p : Nat) : out D n 6 p = (skip D n (es D n p), decide (skip D n (es D n p) ≠ es D n p)) := by
  by_cases hp : p < n
  · by_cases c0 : D p = 43 ∨ D p = 45
    · have e : es D n p = p + 1 := by unfold es; rw [if_pos ⟨hp, c0⟩]
      rw [e, out_go 7 hp (by simp [stp, c0]) (by omega), out7]
    · have e : es D n p = p := by unfold es; rw [if_neg (fun h => c0 h.2)]
      rw [e]
      by_cases c : 48 ≤ D p ∧ D p ≤ 57
      · have g := skip_ge D n (p + 1)
        rw [out_go 8 hp (by simp [stp, c0, c.1, c.2]) (by omega), out8 D n _ _ rfl, skip_step hp (dig_true c.1 c.2)]
        simp; omega
      · rw [out_no hp (by simp [stp, c0]; omega), skip_stop (fun h => dig_not c h.2)]; simp [acc]
  · have e : es D n p = p := by unfold es; rw [if_neg (fun h => hp h.1)]
    rw [e, out_end hp, skip_stop (fun h => hp h.1)]; simp [acc]

theorem p4_e {D : Nat → Int} {n i : Nat} (h : i < n) (c : D i = 101 ∨ D i = 69) : p4 D n i = out D n 6 (i + 1) := by
  unfold p4; rw [if_pos ⟨h, c⟩, out6]
theorem p4_none {D : Nat → Int} {n i : Nat} (h : ¬ (i < n ∧ (D i = 101 ∨ D i = 69))) : p4 D n i = (i, true) := by
  unfold p4; rw [if_neg h]

theorem out5 (D : Nat → Int) (n : Nat) : ∀ m p, n - p = m → out D n 5 p = p4 D n (skip D n p) := by
  intro m
  induction m with
  | zero =>
    intro p h
    rw [out_end (by omega), skip_stop (by omega), p4_none (by omega)]; rfl
  | succ m ih =>
    intro p h
    by_cases c : 48 ≤ D p ∧ D p ≤ 57
    · rw [out_go 5 (by omega) (by simp [stp, c.1, c.2]) (by omega), ih (p + 1) (by omega), skip_step (by omega) (dig_true c.1 c.2)]
    · rw [skip_stop (fun h => dig_not c h.2)]
      by_cases c0 : D p = 101 ∨ D p = 69
      · rw [out_go 6 (by omega) (by simp [stp, c, c0]) (by omega), p4_e (by omega) c0]
      · rw [out_no (by omega) (by simp [stp, c, c0]), p4_none (fun h => c0 h.2)]; rfl

theorem out4 (D : Nat → Int) (n p : Nat) : out D n 4 p = if decide (skip D n p ≠ p) then p4 D n (skip D n p) else (skip D n p, false) := by
  by_cases hp : p < n
  · by_cases c : 48 ≤ D p ∧ D p ≤ 57
    · have g := skip_ge D n (p + 1)
      rw [out_go 5 hp (by simp [stp, c.1, c.2]) (by omega), out5 D n _ _ rfl, skip_step hp (dig_true c.1 c.2), if_pos (by simp; omega)]
    · rw [out_no hp (by simp [stp]; omega), skip_stop (fun h => dig_not c h.2)]; simp [acc]
  · rw [out_end hp, skip_stop (fun h => hp h.1)]; simp [acc]

theorem rest_dot {D : Nat → Int} {n i : Nat} (h : i < n) (c : D i = 46) : rest D n i = out D n 4 (i + 1) := by
  have e : p3 D n i = (skip D n (i + 1), decide (skip D n (i + 1) ≠ i + 1)) := by unfold p3; rw [if_pos ⟨h, c⟩]
  rw [out4]; unfold rest; rw [e]
theorem rest_nodot {D : Nat → Int} {n i : Nat} (h : ¬ (i < n ∧ D i = 46)) : rest D n i = p4 D n i := by
  have e : p3 D n i = (i, true) := by unfold p3; rw [if_neg h]
  unfold rest; rw [e]; rfl

theorem out2 (D : Nat → Int) (n p : Nat) : out D n 2 p = rest D n p := by
  by_cases hp : p < n
  · by_cases c0 : D p = 46
    · rw [out_go 4 hp (by simp [stp, c0]) (by omega), rest_dot hp c0]
    · rw [rest_nodot (fun h => c0 h.2)]
      by_cases c1 : D p = 101 ∨ D p = 69
      · rw [out_go 6 hp (by simp [stp, c0, c1]) (by omega), p4_e hp c1]
      · rw [out_no hp (by simp [stp, c0, c1]), p4_none (fun h => c1 h.2)]; rfl
  · rw [out_end hp, rest_nodot (fun h => hp h.1), p4_none (fun h => hp h.1)]; rfl

theorem out3 (D : Nat → Int) (n : Nat) : ∀ m p, n - p = m → out D n 3 p = rest D n (skip D n p) := by
  intro m
  induction m with
  | zero =>
    intro p h
    rw [out_end (by omega), skip_stop (by omega), rest_nodot (by omega), p4_none (by omega)]; rfl
  | succ m ih =>
    intro p h
    have hp : p < n := by omega
    by_cases c : 48 ≤ D p ∧ D p ≤ 57
    · rw [out_go 3 hp (by simp [stp, c.1, c.2]) (by omega), ih (p + 1) (by omega), skip_step hp (dig_true c.1 c.2)]
    · rw [skip_stop (fun h => dig_not c h.2)]
      by_cases c0 : D p = 46
      · rw [out_go 4 hp (by simp [stp, c0]) (by omega), rest_dot hp c0]
      · rw [rest_nodot (fun h => c0 h.2)]
        by_cases c1 : D p = 101 ∨ D p = 69
        · rw [out_go 6 hp (by simp [stp, c, c0, c1]) (by omega), p4_e hp c1]
        · rw [out_no hp (by simp [stp, c, c0, c1]), p4_none (fun h => c1 h.2)]; rfl

/-- Behind the sign. -/
def tl (D : Nat → Int) (n j : Nat) : Nat × Bool := if (p2 D n j).2 then rest D n (p2 D n j).1 else ((p2 D n j).1, false)
theorem tl_end {D : Nat → Int} {n : Nat} : tl D n n = (n, false) := by simp [tl, p2]
theorem tl_zero {D : Nat → Int} {n j : Nat} (h : j < n) (c : D j = 48) : tl D n j = rest D n (j + 1) := by
  have e : p2 D n j = (j + 1, true) := by unfold p2; rw [if_neg (by omega), if_pos c]
  unfold tl; rw [e]; rfl
theorem tl_dig {D : Nat → Int} {n j : Nat} (h : j < n) (c : 49 ≤ D j ∧ D j ≤ 57) : tl D n j = rest D n (skip D n (j + 1)) := by
  have e : p2 D n j = (skip D n (j + 1), true) := by unfold p2; rw [if_neg (by omega), if_neg (by omega), if_pos c]
  unfold tl; rw [e]; rfl
theorem tl_no {D : Nat → Int} {n j : Nat} (h : j < n) (c0 : ¬ D j = 48) (c : ¬ (49 ≤ D j ∧ D j ≤ 57)) : tl D n j = (j, false) := by
  have e : p2 D n j = (j, false) := by unfold p2; rw [if_neg (by omega), if_neg c0, if_neg c]
  unfold tl; rw [e]; rfl

theorem out1 (D : Nat → Int) (n p : Nat) (h : p ≤ n) : out D n 1 p = tl D n p := by
  by_cases hp : p < n
  · by_cases c0 : D p = 48
    · rw [out_go 2 hp (by simp [stp, c0]) (by omega), tl_zero hp c0, out2]
    · by_cases c : 49 ≤ D p ∧ D p ≤ 57
      · rw [out_go 3 hp (by simp [stp, c0, c.1, c.2]) (by omega), tl_dig hp c, out3 D n _ _ rfl]
      · rw [out_no hp (by simp [stp, c0, c]), tl_no hp c0 c]; rfl
  · obtain rfl : p = n := by omega
    rw [out_end hp, tl_end]; rfl

theorem out0 (D : Nat → Int) (n p : Nat) (h : p ≤ n) : out D n 0 p = vn D n p := by
  have e : vn D n p = tl D n (p1 D n p) := rfl
  rw [e]
  by_cases hp : p < n
  · by_cases c45 : D p = 45
    · have e1 : p1 D n p = p + 1 := by unfold p1; rw [if_pos ⟨hp, c45⟩]
      rw [e1, out_go 1 hp (by simp [stp, c45]) (by omega), out1 D n _ (by omega)]
    · have e1 : p1 D n p = p := by unfold p1; rw [if_neg (fun h => c45 h.2)]
      rw [e1]
      by_cases c0 : D p = 48
      · rw [out_go 2 hp (by simp [stp, c0]) (by omega), tl_zero hp c0, out2]
      · by_cases c : 49 ≤ D p ∧ D p ≤ 57
        · rw [out_go 3 hp (by simp [stp, c45, c0, c.1, c.2]) (by omega), tl_dig hp c, out3 D n _ _ rfl]
        · rw [out_no hp (by simp [stp, c45, c0, c]), tl_no hp c0 c]; rfl
  · obtain rfl : p = n := by omega
    have e1 : p1 D p p = p := by unfold p1; rw [if_neg (by omega)]
    rw [e1, out_end hp, tl_end]; rfl

end Go.Proofs.Qxb6604268a
