/-
  Seat b6604273a: radixSort.
-/
import Derived.Test.Qxb6604273aWalkD
import Derived.Deep.DeepCutAuto
import Derived.Deep.CutBlock
import Derived.Deep.Light
namespace Go.Proofs.Qxb6604273a
open Go.RowKit

theorem orAll_step {K : List Nat} {k : Nat} (h : k < K.length) : orAll (K.take (k + 1)) 0 = orAll (K.take k) 0 ||| K.getD k 0 := by
  rw [List.take_succ_eq_append_getElem h, orAll_snoc, List.getD_eq_getElem?_getD, List.getElem?_eq_getElem h]; rfl

theorem getD_elem {A : List Nat} {m : Nat} (h : m < A.length) : A.getD m 0 = A[m] := by
  rw [List.getD_eq_getElem?_getD, List.getElem?_eq_getElem h]; rfl

/-- The counts behind one key more. -/
theorem count_next {dg : Nat → Nat} {A : List Nat} {m x d : Nat} (hm : m < A.length) (hx : x = A.getD m 0) (hd : d = dg x) (j : Nat) :
    (if j = d then Value.int .i64 (((cnt dg d (A.take m) : Nat) : Int) + 1) else .int .i64 ((cnt dg j (A.take m) : Nat) : Int)) = .int .i64 ((cnt dg j (A.take (m + 1)) : Nat) : Int) := by
  rw [getD_elem hm] at hx
  subst hx
  rw [cnt_step hm, ← hd]
  by_cases e : j = d
  · subst e; simp
  · rw [if_neg e, if_neg (Ne.symm e)]; simp

theorem sums_next {dg : Nat → Nat} {A : List Nat} {v : Nat} (j : Nat) :
    (if j = v then Value.int .i64 ((st dg A v : Nat) : Int) else .int .i64 ((if j < v then st dg A j else cnt dg j A : Nat) : Int)) = .int .i64 ((if j < v + 1 then st dg A j else cnt dg j A : Nat) : Int) := by
  by_cases e : j = v
  · subst e; simp
  · rw [if_neg e]
    by_cases c : j < v
    · rw [if_pos c, if_pos (by omega)]
    · rw [if_neg c, if_neg (by omega)]

theorem place_next {dg : Nat → Nat} {A : List Nat} {m x d p : Nat} (hm : m < A.length) (hx : x = A.getD m 0) (hd : d = dg x) (hp : p = st dg A d + cnt dg d (A.take m)) (j : Nat) :
    (if j = d then Value.int .i64 ((p : Int) + 1) else .int .i64 ((st dg A j + cnt dg j (A.take m) : Nat) : Int)) = .int .i64 ((st dg A j + cnt dg j (A.take (m + 1)) : Nat) : Int) := by
  rw [getD_elem hm] at hx
  subst hx
  rw [cnt_step hm, ← hd]
  by_cases e : j = d
  · subst e; rw [if_pos rfl, if_pos rfl, hp]; congr 1
  · rw [if_neg e, if_neg (Ne.symm e)]; rfl

/-- What is filled is right. -/
def Right (dg : Nat → Nat) (A X : List Nat) (m : Nat) : Prop := ∀ q, Filled dg A 256 m q → X.getD q 0 = (bk dg A 256).getD q 0

theorem Right.next {dg : Nat → Nat} {A X : List Nat} {m x d p : Nat} (h : Right dg A X m) (hm : m < A.length) (hx : x = A.getD m 0) (hd : d = dg x) (hd2 : d < 256) (hp : p = st dg A d + cnt dg d (A.take m)) (hpl : p < X.length) : Right dg A (X.set p x) (m + 1) := by
  rw [getD_elem hm] at hx
  subst hx
  have hpp : (bk dg A 256).getD p 0 = A[m] := by
    have := place (d := dg) (l := A) (k := m) (m := 256) hm (by rw [← hd]; exact hd2)
    rw [← hd, ← hp] at this
    rw [List.getD_eq_getElem?_getD, this]; rfl
  intro q hq
  by_cases e : q = p
  · subst e
    rw [hpp]
    simp [hpl]
  · rcases filled_step hm hq with c | c
    · rw [← h q c]
      simp [Ne.symm e]
    · rw [← hd, ← hp] at c
      exact absurd c e

theorem Right.done {dg : Nat → Nat} {A X : List Nat} (h : Right dg A X A.length) (hd : ∀ x ∈ A, dg x < 256) (hl : X.length = A.length) : X = bk dg A 256 := by
  have hb : (bk dg A 256).length = A.length := by rw [bk_length, st_total dg A 256 hd]
  apply List.ext_getElem (by rw [hl, hb])
  intro i h1 h2
  have := h i (filled_all (by rw [st_total dg A 256 hd]; omega))
  rw [getD_elem h1, getD_elem h2] at this
  exact this

theorem info30 : (Try.prog.info? 30).map (·.size) = some 256 := by kernel_rfl

set_option maxRecDepth 100000 in
set_option maxHeartbeats 6400000 in
theorem radix_any (B g0 n lo : Nat) (K : List Nat) (w : World) (hKn : K.length = n) (hn : n ≤ 131072) (hlo : lo ≤ 18446744073709551615) (hr : RowAt w g0 K) (hB : B ≤ g0) (hK : ∀ x ∈ K, x < 2 ^ 64) :
    Calls Try.prog 10 #[.slice (some ⟨g0, 0, none⟩) n n, .int .u64 lo] w fun e w' => ∃ g A, e = .returned (.slice (some ⟨g, 0, none⟩) n n) ∧ RowAt w' g A ∧ A.length = n ∧ Stable (hi lo) K A ∧ Below B w w' := by
  have hmk := run_make_row' (P := Try.prog) 22 28 (.int .u64 0) 8 Try.underlying22 Try.info28 rfl .i64 .i64 n (by omega) (by omega)
  have HKn : Hid (K.length = n) := hKn
  have HK : Hid (∀ x ∈ K, x < 2 ^ 64) := hK
  have HLO : Hid (lo ≤ 18446744073709551615) := hlo
  clear hKn hK hlo
  go_enter Try.func10, Try.ntmps10
  go_wp2_with fail
  go_loopg [5, 21] n (fun g va vi wr => ∃ k : Nat, k ≤ n ∧ g = n - k ∧ vi = .int .i64 k ∧ va = .int .u64 ((orAll (K.take k) 0 : Nat) : Int) ∧ wr = w)
  case atStart => exact ⟨0, Nat.zero_le _, rfl, rfl, rfl, rfl⟩
  case round =>
  obtain ⟨k, hk, rfl, rfl, rfl, rfl⟩ := hrel
  by_cases hlt : k < n
  · have hkl : k < K.length := by rw [HKn.out]; exact hlt
    obtain ⟨x, hx⟩ : ∃ x, x = K.getD k 0 := ⟨_, rfl⟩
    have ck : wr.cell? ⟨g0, k, none⟩ = some (.int .u64 (x : Int)) := by rw [hx]; exact hr.cell hkl
    have HS : Hid (orAll (K.take (k + 1)) 0 = orAll (K.take k) 0 ||| x) := by rw [hx]; exact orAll_step hkl
    have hxl : x < 2 ^ 64 := by
      rw [hx, List.getD_eq_getElem?_getD, List.getElem?_eq_getElem hkl]
      exact HK.out _ (List.getElem_mem hkl)
    have hol : orAll (K.take k) 0 < 2 ^ 64 := orAll_lt _ _ (by decide) (fun y hy => HK.out y (List.mem_of_mem_take hy))
    have hbit := bits_or_u64_nat (orAll (K.take k) 0) x hol hxl
    clear hx hkl hxl hol hr
    generalize orAll (K.take k) 0 = o at HS hbit ⊢
    go_wp2
    go_roundg (n - (k + 1))
    case measure => omega
    case rel => exact ⟨k + 1, by omega, rfl, by go_num, by rw [HS.out], rfl⟩
  obtain rfl : k = n := by omega
  clear hlt hk
  obtain ⟨w1, rfl⟩ : ∃ w1 : World, w1 = wr := ⟨_, rfl⟩
  go_wp2_with fail
  have hT0 : Two B w1 (w1.alloc (Obj.cells (madeCells #[Value.int .u64 0] k) 28)) g0 w1.heap.size K (List.replicate k 0) := by
    refine ⟨hr.alloc _, ?_, Nat.ne_of_lt hr.lt, hB, Nat.le_trans hB (Nat.le_of_lt hr.lt), (Below.refl _ _).alloc (Nat.le_trans hB (Nat.le_of_lt hr.lt)) _⟩
    unfold RowAt
    rw [List.length_replicate]
    exact (World.rowIs_made w1 (.int .u64 0) k 28).congr (fun i hi => by simp [wv, hi])
  have HAL : Hid (∀ s, orAll (K.take k) 0 / 2 ^ s = 0 → ∀ x ∈ K, x / 2 ^ s = 0) := fun s h => (orAll_zero s K 0 (by rw [List.take_of_length_le (by rw [HKn.out]; exact Nat.le_refl _)] at h; exact h)).2
  generalize orAll (K.take k) 0 = al at HAL ⊢
  clear hr
  go_loopg [0, 8, 9] (64 - lo) (fun g vk vs vsh wq => ∃ (t : Nat) (A X : List Nat) (ga gb : Nat), g = 64 - (lo + 8 * t) ∧ vk = .slice (some ⟨ga, 0, none⟩) k k ∧ vs = .slice (some ⟨gb, 0, none⟩) k k ∧ vsh = .int .u64 ((lo + 8 * t : Nat) : Int) ∧ Stable (low8 lo t) K A ∧ A.length = k ∧ X.length = k ∧ Two B w1 wq ga gb A X)
  case atStart => exact ⟨0, K, _, _, _, rfl, rfl, rfl, rfl, low8_zero lo K, HKn.out, by simp, hT0⟩
  case round =>
  obtain ⟨t, A, X, ga, gb, rfl, rfl, rfl, rfl, hSt, hAl, hXl, hT⟩ := hrel
  clear hT0
  have HAl : Hid (A.length = k) := hAl
  have HXl : Hid (X.length = k) := hXl
  clear hAl hXl
  obtain ⟨sh, hsh⟩ : ∃ sh, sh = lo + 8 * t := ⟨_, rfl⟩
  rw [← hsh]
  by_cases hs : sh < 64
  rotate_left
  · have hz : ∀ x ∈ K, x / 2 ^ (lo + 8 * t) = 0 := fun x hx => Nat.div_eq_of_lt (Nat.lt_of_lt_of_le (HK.out x hx) (Nat.pow_le_pow_right (by decide) (by omega)))
    have hD := low8_done hSt hz
    clear hz hsh
    go_wp2
    go_ret
    first | exact ⟨ga, A, rfl, hT.ra, HAl.out, hD, hT.bel⟩ | exact ⟨ga, rfl, A, hT.ra, HAl.out, hD, hT.bel⟩
  by_cases hz : al / 2 ^ sh = 0
  · have hD := low8_done hSt (by rw [← hsh]; exact HAL.out sh hz)
    have hzb : ((al : Int) / 2 ^ sh != 0) = false := by
      have e : (al : Int) / 2 ^ sh = ((al / 2 ^ sh : Nat) : Int) := rfl
      rw [e, hz]; rfl
    clear hz hsh
    go_wp2
    go_ret
    first | exact ⟨ga, A, rfl, hT.ra, HAl.out, hD, hT.bel⟩ | exact ⟨ga, rfl, A, hT.ra, HAl.out, hD, hT.bel⟩
  have hzb : ((al : Int) / 2 ^ sh != 0) = true := by
    have e : (al : Int) / 2 ^ sh = ((al / 2 ^ sh : Nat) : Int) := rfl
    rw [e]; simp; omega
  have HSH : Hid (sh = lo + 8 * t) := hsh
  clear hz hsh
  have hal := zero30
  obtain ⟨wo, rfl⟩ : ∃ wo : World, wo = wr := ⟨_, rfl⟩
  go_wp2_with fail
  have hTr := Tri.new hT
  clear hT
  go_loopg [45] k (fun g vi wq => ∃ m : Nat, m ≤ k ∧ g = k - m ∧ vi = .int .i64 m ∧ Tri B w1 wq ga gb wo.heap.size A X (fun v => .int .i64 ((cnt (dgt sh) v (A.take m) : Nat) : Int)))
  case atStart => exact ⟨0, Nat.zero_le _, rfl, rfl, hTr.congr (fun v _ => by simp [cnt, fl_nil])⟩
  case round =>
  obtain ⟨m, hm, rfl, rfl, hTm⟩ := hrel
  clear hTr
  by_cases hlt : m < k
  · have hml : m < A.length := by rw [HAl.out]; exact hlt
    obtain ⟨x, hx⟩ : ∃ x, x = A.getD m 0 := ⟨_, rfl⟩
    obtain ⟨d, hd⟩ : ∃ d, d = dgt sh x := ⟨_, rfl⟩
    have cm : wr.cell? ⟨ga, m, none⟩ = some (.int .u64 (x : Int)) := by rw [hx]; exact hTm.two.ra.cell hml
    have hd256 : d < 256 := by rw [hd]; exact dgt_lt _ _
    have cd := hTm.rn.cell hd256
    have fd := hTm.rn.frozen d
    have hc1 : cnt (dgt sh) d (A.take m) ≤ k := by have := fl_len_le (dgt sh) d A m; have h2 : cnt (dgt sh) d A ≤ A.length := List.length_filter_le _ _; rw [HAl.out] at h2; omega
    have hq : (x : Int) / 2 ^ sh % 256 = (d : Int) := by rw [hd]; rfl
    have HN : Hid (Tri B w1 (wr.setCell ⟨wo.heap.size, d, none⟩ (.int .i64 (((cnt (dgt sh) d (A.take m) : Nat) : Int) + 1))) ga gb wo.heap.size A X (fun v => .int .i64 ((cnt (dgt sh) v (A.take (m + 1)) : Nat) : Int))) :=
      (hTm.storeN d _).congr (fun j _ => count_next hml hx hd j)
    clear hx hd hTm hml
    generalize cnt (dgt sh) d (A.take m) = c at cd HN hc1
    go_wp2
    go_roundg (k - (m + 1))
    case measure => omega
    case rel => exact ⟨m + 1, by omega, rfl, by go_num, HN.out⟩
  obtain rfl : k = m := by omega
  clear hlt hm
  obtain ⟨w2, rfl⟩ : ∃ w2 : World, w2 = wr := ⟨_, rfl⟩
  have hTk : Tri B w1 w2 ga gb wo.heap.size A X (fun v => .int .i64 ((cnt (dgt sh) v A : Nat) : Int)) := hTm.congr (fun j _ => by rw [List.take_of_length_le (by rw [HAl.out]; exact Nat.le_refl _)])
  clear hTm
  obtain ⟨cs, hcs, hsz, hget⟩ := hTk.rn
  have hinf : (Try.prog.info? 30).map (·.size) = some cs.size := by rw [hsz]; exact info30
  have HG : Hid (∀ i, i < 256 → cs[i]? = some (.int .i64 ((cnt (dgt sh) i A : Nat) : Int))) := hget
  clear hget hsz
  go_wp2_with (refine wpList_load_row rfl 30 _ rfl wo.heap.size rfl 30 cs (0, 0) _ hcs Try.underlying30 rfl hinf ?_)
  clear hcs hinf
  have hdA : ∀ x ∈ A, dgt sh x < 256 := fun x _ => dgt_lt sh x
  have htot : st (dgt sh) A 256 = k := (st_total (dgt sh) A 256 hdA).trans HAl.out
  have HTOT : Hid (st (dgt sh) A 256 = k) := htot
  clear htot hdA
  go_loopg [13, 59] 256 (fun g va vi wq => ∃ v : Nat, v ≤ 256 ∧ g = 256 - v ∧ vi = .int .i64 v ∧ va = .int .i64 ((st (dgt sh) A v : Nat) : Int) ∧ Tri B w1 wq ga gb wo.heap.size A X (fun u => .int .i64 ((if u < v then st (dgt sh) A u else cnt (dgt sh) u A : Nat) : Int)))
  case atStart => exact ⟨0, Nat.zero_le _, rfl, rfl, rfl, hTk.congr (fun j _ => by simp)⟩
  case round =>
  obtain ⟨v, hv, rfl, rfl, rfl, hTv⟩ := hrel
  clear hTk
  by_cases hlt : v < 256
  · have hix := fun wq => index30 cs v _ wq hlt (HG.out v hlt)
    have cv := hTv.rn.cell hlt
    have fv := hTv.rn.frozen v
    have hst : st (dgt sh) A v + cnt (dgt sh) v A ≤ k := by
      have h1 : st (dgt sh) A (v + 1) ≤ st (dgt sh) A 256 := st_mono _ _ (by omega)
      rw [HTOT.out] at h1
      exact h1
    have HE : Hid (st (dgt sh) A (v + 1) = st (dgt sh) A v + cnt (dgt sh) v A) := rfl
    have HN : Hid (Tri B w1 (wr.setCell ⟨wo.heap.size, v, none⟩ (.int .i64 ((st (dgt sh) A v : Nat) : Int))) ga gb wo.heap.size A X (fun u => .int .i64 ((if u < v + 1 then st (dgt sh) A u else cnt (dgt sh) u A : Nat) : Int))) :=
      (hTv.storeN v _).congr (fun j _ => sums_next j)
    clear hTv HG
    generalize st (dgt sh) A v = s0 at hst HE HN ⊢
    generalize cnt (dgt sh) v A = c0 at hix hst HE
    generalize (if v < v then s0 else c0 : Nat) = z0 at cv
    go_wp2
    go_roundg (256 - (v + 1))
    case measure => omega
    case rel => exact ⟨v + 1, by omega, rfl, by go_num, by rw [HE.out]; go_num, HN.out⟩
  obtain rfl : 256 = v := by omega
  clear hlt hv HG
  obtain ⟨w3, rfl⟩ : ∃ w3 : World, w3 = wr := ⟨_, rfl⟩
  have hTs : Tri B w1 w3 ga gb wo.heap.size A X (fun u => .int .i64 ((st (dgt sh) A u + cnt (dgt sh) u (A.take 0) : Nat) : Int)) := hTv.congr (fun j hj => by rw [if_pos hj]; simp [cnt, fl_nil])
  have hR0 : Right (dgt sh) A X 0 := fun q hq => (filled_zero hq).elim
  clear hTv
  go_wp2_with fail
  go_loopg [72] k (fun g vi wq => ∃ (m : Nat) (Y : List Nat), m ≤ k ∧ g = k - m ∧ vi = .int .i64 m ∧ Y.length = k ∧ Right (dgt sh) A Y m ∧ Tri B w1 wq ga gb wo.heap.size A Y (fun u => .int .i64 ((st (dgt sh) A u + cnt (dgt sh) u (A.take m) : Nat) : Int)))
  case atStart => exact ⟨0, X, Nat.zero_le _, rfl, rfl, HXl.out, hR0, hTs⟩
  case round =>
  obtain ⟨m, Y, hm, rfl, rfl, hYl, hR, hTm⟩ := hrel
  clear hTs hR0
  have HYl : Hid (Y.length = k) := hYl
  clear hYl
  by_cases hlt : m < k
  · have hml : m < A.length := by rw [HAl.out]; exact hlt
    obtain ⟨x, hx⟩ : ∃ x, x = A.getD m 0 := ⟨_, rfl⟩
    obtain ⟨d, hd⟩ : ∃ d, d = dgt sh x := ⟨_, rfl⟩
    obtain ⟨p, hp⟩ : ∃ p, p = st (dgt sh) A d + cnt (dgt sh) d (A.take m) := ⟨_, rfl⟩
    have cm : wr.cell? ⟨ga, m, none⟩ = some (.int .u64 (x : Int)) := by rw [hx]; exact hTm.two.ra.cell hml
    have hd256 : d < 256 := by rw [hd]; exact dgt_lt _ _
    have hpk : p < k := by
      have h0 : d = dgt sh A[m] := by rw [hd, hx, getD_elem hml]
      have h1 := cnt_lt (d := dgt sh) hml
      rw [← h0] at h1
      have h2 : st (dgt sh) A (d + 1) ≤ st (dgt sh) A 256 := st_mono _ _ (by omega)
      rw [HTOT.out] at h2
      simp only [st] at h2
      omega
    have cd : wr.cell? ⟨wo.heap.size, d, none⟩ = some (.int .i64 (p : Int)) := by rw [hp]; exact hTm.rn.cell hd256
    have cp := hTm.two.rb.cell (i := p) (by rw [HYl.out]; exact hpk)
    have fp := hTm.two.rb.frozen p
    have hTb := hTm.storeB p x
    have cd2 : (wr.setCell ⟨gb, p, none⟩ (.int .u64 (x : Int))).cell? ⟨wo.heap.size, d, none⟩ = some (.int .i64 (p : Int)) := by rw [hp]; exact (hTm.storeB _ x).rn.cell hd256
    have fd2 := hTb.rn.frozen d
    have hq : (x : Int) / 2 ^ sh % 256 = (d : Int) := by rw [hd]; rfl
    have HN : Hid (Tri B w1 ((wr.setCell ⟨gb, p, none⟩ (.int .u64 (x : Int))).setCell ⟨wo.heap.size, d, none⟩ (.int .i64 ((p : Int) + 1))) ga gb wo.heap.size A (Y.set p x) (fun u => .int .i64 ((st (dgt sh) A u + cnt (dgt sh) u (A.take (m + 1)) : Nat) : Int))) :=
      (hTb.storeN d _).congr (fun j _ => place_next hml hx hd hp j)
    have HR : Hid (Right (dgt sh) A (Y.set p x) (m + 1)) := hR.next hml hx hd hd256 hp (by rw [HYl.out]; exact hpk)
    clear hx hd hp hTm hTb hml hR
    generalize ((Y.getD p 0 : Nat) : Int) = z0 at cp
    go_wp2
    go_roundg (k - (m + 1))
    case measure => omega
    case rel => exact ⟨m + 1, Y.set p x, by omega, rfl, by go_num, by rw [List.length_set]; exact HYl.out, HR.out, HN.out⟩
  obtain rfl : k = m := by omega
  have hYR : Y = bk (dgt sh) A 256 := Right.done (by rw [HAl.out]; exact hR) (fun x _ => dgt_lt sh x) (by rw [HYl.out, HAl.out])
  have hS2 : Stable (dgt (lo + 8 * t)) A Y := by
    rw [hYR, ← HSH.out]
    exact bk_stable _ _ _ (fun x _ => dgt_lt sh x)
  have HNX : Hid (Stable (low8 lo (t + 1)) K Y) := low8_next hSt hS2
  have hTw := hTm.two.swap
  clear hYR hS2 hR hTm hlt hm hSt
  go_wp2
  go_roundg (64 - (lo + 8 * (t + 1)))
  case measure => have := HSH.out; omega
  case rel => exact ⟨t + 1, Y, A, gb, ga, rfl, rfl, rfl, by have := HSH.out; go_num, HNX.out, HYl.out, HAl.out, hTw⟩

end Go.Proofs.Qxb6604273a
