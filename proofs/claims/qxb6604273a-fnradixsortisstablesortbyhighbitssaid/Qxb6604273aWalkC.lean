/-
  Seat b6604273a: stableSortByHigh.
-/
import Derived.Test.Qxb6604273aWalkB
import Derived.Deep.DeepCutAuto
import Derived.Deep.CutBlock
import Derived.Deep.Light
import Derived.Deep.RegionWith
namespace Go.Proofs.Qxb6604273a
open Go.RowKit

/-- What the width loop keeps. -/
structure Wid (lo : Nat) (K A : List Nat) (W : Nat) : Prop where
  pos : 0 < W
  top : W ≤ 262144
  blk : Blocks (hi lo) W A
  flt : ∀ v, fl (hi lo) v A = fl (hi lo) v K
  len : A.length = K.length

theorem Wid.lt {lo : Nat} {K A : List Nat} {W : Nat} (h : Wid lo K A W) (hK : ∀ x ∈ K, x < 2 ^ 64) : ∀ x ∈ A, x < 2 ^ 64 := fun x hx => by
  have : x ∈ fl (hi lo) (hi lo x) A := mem_fl.2 ⟨hx, rfl⟩
  rw [h.flt] at this
  exact hK x (mem_fl.1 this).1

set_option maxRecDepth 100000 in
set_option maxHeartbeats 6400000 in
theorem stable_any (a : Option Addr) (n cap lo : Nat) (K : List Nat) (w : World) (hKn : K.length = n) (hn : n ≤ 131072) (hr : WRow w a K) (hK : ∀ x ∈ K, x < 2 ^ 64) :
    Calls Try.prog 6 #[.slice a n cap, .int .u64 lo] w fun e w' => ∃ g A, e = .returned (.slice (some ⟨g, 0, none⟩) n n) ∧ RowAt w' g A ∧ A.length = n ∧ Stable (hi lo) K A ∧ Below w.heap.size w w' := by
  have hmk := run_make_row' (P := Try.prog) 22 28 (.int .u64 0) 8 Try.underlying22 Try.info28 rfl .i64 .i64 n (by omega) (by omega)
  have HKn : Hid (K.length = n) := hKn
  have HK : Hid (∀ x ∈ K, x < 2 ^ 64) := hK
  clear hKn hK
  go_enter Try.func6, Try.ntmps6
  go_wp2_with fail
  go_loopg [7] n (fun g i wr => ∃ k : Nat, k ≤ n ∧ g = n - k ∧ i = .int .i64 k ∧ wr.rowIs w.heap.size 28 n (part K k) ∧ Below w.heap.size w wr)
  case atStart =>
    exact ⟨0, Nat.zero_le _, rfl, rfl, (World.rowIs_made w (.int .u64 0) n 28).congr (fun i hi => by simp [part]), (Below.refl _ _).alloc (Nat.le_refl _) _⟩
  case round =>
  obtain ⟨k, hk, rfl, rfl, hrow, hb⟩ := hrel
  by_cases hlt : k < n
  · obtain ⟨b, off, rfl, hl, hc⟩ := hr k (by rw [HKn.out]; exact hlt)
    have hcr := (hb.cell (p := ⟨b, off + k, none⟩) hl).trans hc
    have hcd := hrow.cell hlt
    have hfd := hrow.frozen k
    have HP' : Hid ((fun j => if j = k then Value.int .u64 ((K.getD k 0 : Nat) : Int) else part K k j) = part K (k + 1)) := part_step K k
    clear hc hr
    generalize ((K.getD k 0 : Nat) : Int) = c at hcr HP'
    go_wp2
    go_roundg (n - (k + 1))
    case measure => omega
    case rel => exact ⟨k + 1, by omega, rfl, by go_num, by rw [← HP'.out]; exact hrow.set k _, hb.setCell (Nat.le_refl _) _⟩
  obtain rfl : k = n := by omega
  have hrow' : RowAt wr w.heap.size K := part_done (by rw [HKn.out]; exact hrow)
  clear hrow hr hlt hk
  obtain ⟨w1, rfl⟩ : ∃ w1 : World, w1 = wr := ⟨_, rfl⟩
  go_wp2_with fail
  have hT0 : Two w.heap.size w (w1.alloc (Obj.cells (madeCells #[Value.int .u64 0] k) 28)) w.heap.size w1.heap.size K (List.replicate k 0) := by
    refine ⟨hrow'.alloc _, ?_, Nat.ne_of_lt hrow'.lt, Nat.le_refl _, hb.size, hb.alloc hb.size _⟩
    unfold RowAt
    rw [List.length_replicate]
    exact (World.rowIs_made w1 (.int .u64 0) k 28).congr (fun i hi => by simp [wv, hi])
  clear hb
  go_loopg [6, 8, 9] (k - 1) (fun g va vb vw wq => ∃ (W : Nat) (A X : List Nat) (ga gb : Nat), g = k - W ∧ va = .slice (some ⟨ga, 0, none⟩) k k ∧ vb = .slice (some ⟨gb, 0, none⟩) k k ∧ vw = .int .i64 W ∧ Wid lo K A W ∧ X.length = k ∧ Two w.heap.size w wq ga gb A X)
  case atStart => exact ⟨1, K, _, _, _, rfl, rfl, rfl, rfl, ⟨by omega, by omega, blocks_one _ _, fun _ => rfl, rfl⟩, by simp, hT0⟩
  case round =>
  obtain ⟨W, A, X, ga, gb, rfl, rfl, rfl, rfl, hW, hX, hT⟩ := hrel
  clear hT0
  by_cases hlt : W < k
  rotate_left
  · go_wp2
    go_ret
    exact ⟨ga, A, rfl, hT.ra, hW.len.trans HKn.out, ⟨blocks_all hW.blk (by rw [hW.len, HKn.out]; omega), hW.flt⟩, hT.bel⟩
  obtain ⟨M, hM⟩ : ∃ M, M = pass (hi lo) W A.length A := ⟨_, rfl⟩
  have hAl : A.length = k := hW.len.trans HKn.out
  have hMl : M.length = A.length := by rw [hM]; exact pass_length _ _ hW.pos _ _ (Nat.le_refl _)
  have hP : Pas (hi lo) W A M X 0 := by rw [hM]; exact Pas.start hW.pos (by rw [hX, hAl])
  have HA : Hid (A.length = k) := hAl
  have HM : Hid (M = pass (hi lo) W A.length A) := hM
  have HMl : Hid (M.length = A.length) := hMl
  have hW1 := hW.pos
  have hW2 := hW.top
  obtain ⟨wo, rfl⟩ : ∃ wo : World, wo = wr := ⟨_, rfl⟩
  have HX : Hid (X.length = k) := hX
  have HAlt : Hid (∀ x ∈ A, x < 2 ^ 64) := hW.lt HK.out
  clear hM hAl hMl hX
  go_wp2_with fail
  go_loopg [10] k (fun g vl wi => ∃ (l : Nat) (X : List Nat), g = k - l ∧ vl = .int .i64 l ∧ l ≤ 655360 ∧ Pas (hi lo) W A M X l ∧ Two w.heap.size w wi ga gb A X)
  case atStart => exact ⟨0, X, rfl, rfl, by omega, hP, hT⟩
  case round =>
  obtain ⟨l, Y, rfl, rfl, hl2, hP2, hT2⟩ := hrel
  clear hP hT
  by_cases hl : l < k
  rotate_left
  · have hYM : Y = M := hP2.done HMl.out (by rw [HA.out]; omega)
    subst hYM
    have R : Wid lo K Y (2 * W) := ⟨by omega, by omega, by rw [HM.out]; exact pass_blocks _ _ hW.pos _ _ (Nat.le_refl _) hW.blk, fun v => by rw [HM.out, pass_fl _ _ hW.pos v _ _ (Nat.le_refl _) hW.blk]; exact hW.flt v, HMl.out.trans hW.len⟩
    clear hP2
    go_wp2
    go_roundg (k - 2 * W)
    case measure => omega
    case rel => exact ⟨2 * W, Y, A, gb, ga, rfl, rfl, rfl, by go_num, R, HA.out, hT2.swap⟩
  obtain ⟨mid, hmid⟩ : ∃ mid, mid = min (l + W) k := ⟨_, rfl⟩
  obtain ⟨top, htop⟩ : ∃ top, top = min (l + 2 * W) k := ⟨_, rfl⟩
  obtain ⟨T, hMg, hTT⟩ := hP2.enter (mid := mid) (top := top) hW1 HMl.out (by rw [HA.out]; exact hl) (by rw [HA.out]; exact hmid) (by rw [HA.out]; exact htop)
  have hm1 : l < mid := by omega
  have hm2 : mid ≤ top := by omega
  have hm3 : top ≤ k := by omega
  have Hmid : Hid (mid = min (l + W) k) := hmid
  have Htop : Hid (top = min (l + 2 * W) k) := htop
  have HTT : Hid (∃ f, A.length - (l + 2 * W) ≤ f ∧ T = pass (hi lo) W f (A.drop (l + 2 * W))) := hTT
  clear hmid htop hTT hP2
  obtain ⟨wi, rfl⟩ : ∃ wi : World, wi = wr := ⟨_, rfl⟩
  go_upto_if 51 with fail
  go_cut [11, 51] (fun v _ wx => v = .int .i64 mid ∧ wx = wi)
  case first =>
    clear hMg hT2 HTT Htop HM HMl HA HX HAlt
    by_cases hc : k < l + W
    · have e : mid = k := by have := Hmid.out; omega
      have He : Hid (mid = k) := e
      clear e Hmid hm1 hm2
      go_wp2
      go_meet
      exact ⟨by rw [He.out], rfl⟩
    · have e : mid = l + W := by have := Hmid.out; omega
      have He : Hid (mid = l + W) := e
      clear e Hmid hm1 hm2
      go_wp2
      go_meet
      exact ⟨by rw [He.out]; go_num, rfl⟩
  case rest =>
  obtain ⟨rfl, rfl⟩ := hcut
  go_upto_if 59 with fail
  go_cut [12, 59] (fun v _ wx => v = .int .i64 top ∧ wx = wc)
  case first =>
    clear hMg hT2 HTT Hmid HM HMl HA HX HAlt
    by_cases hc : k < l + 2 * W
    · have e : top = k := by have := Htop.out; omega
      have He : Hid (top = k) := e
      clear e Htop hm1 hm2 hm3
      go_wp2
      go_meet
      exact ⟨by rw [He.out], rfl⟩
    · have e : top = l + 2 * W := by have := Htop.out; omega
      have He : Hid (top = l + 2 * W) := e
      clear e Htop hm1 hm2 hm3
      go_wp2
      go_meet
      exact ⟨by rw [He.out]; go_num, rfl⟩
  case rest =>
  obtain ⟨rfl, rfl⟩ := hcut
  go_upto_block 6 with fail
  go_cut [13, 14, 15] (fun vi vj vo wx => ∃ (i j : Nat) (Y : List Nat), vi = .int .i64 i ∧ vj = .int .i64 j ∧ vo = .int .i64 ((i + (j - mid) : Nat) : Int) ∧ i ≤ mid ∧ mid ≤ j ∧ j ≤ top ∧ (i < mid → j = top) ∧ Mrg (hi lo) A M Y i j mid top T ∧ Two w.heap.size w wx ga gb A Y)
  case first =>
    clear HTT Htop Hmid HM HX
    go_wp2_with fail
    go_loopg [13, 14, 15] (mid - l + (top - mid)) (fun g vi vj vo wx => ∃ (i j : Nat) (Y : List Nat), g = mid - i + (top - j) ∧ vi = .int .i64 i ∧ vj = .int .i64 j ∧ vo = .int .i64 ((i + (j - mid) : Nat) : Int) ∧ i ≤ mid ∧ mid ≤ j ∧ j ≤ top ∧ Mrg (hi lo) A M Y i j mid top T ∧ Two w.heap.size w wx ga gb A Y)
    case atStart => exact ⟨l, mid, Y, rfl, rfl, rfl, by rw [Nat.sub_self, Nat.add_zero], by omega, by omega, by omega, hMg, hT2⟩
    case round =>
    obtain ⟨i, j, Z, rfl, rfl, rfl, rfl, hi1, hj1, hj2, hMz, hTz⟩ := hrel
    clear hMg hT2
    by_cases hi : i < mid
    rotate_left
    · have hij : i < mid → j = top := fun h => absurd h hi
      go_wp2
      go_meet
      exact ⟨i, j, Z, rfl, rfl, rfl, hi1, hj1, hj2, hij, hMz, hTz⟩
    by_cases hj : j < top
    rotate_left
    · have hij : i < mid → j = top := fun _ => by omega
      have HIJ : Hid (i < mid → j = top) := hij
      clear hij
      go_wp2
      go_meet
      exact ⟨i, j, Z, rfl, rfl, rfl, hi1, hj1, hj2, HIJ.out, hMz, hTz⟩
    obtain ⟨x, hx⟩ : ∃ x, x = A.getD j 0 := ⟨_, rfl⟩
    obtain ⟨y, hy⟩ : ∃ y, y = A.getD i 0 := ⟨_, rfl⟩
    obtain ⟨o, ho⟩ : ∃ o, o = i + (j - mid) := ⟨_, rfl⟩
    have cj : wr.cell? ⟨ga, j, none⟩ = some (.int .u64 (x : Int)) := by rw [hx]; exact hTz.ra.cell (by rw [HA.out]; omega)
    have ci : wr.cell? ⟨ga, i, none⟩ = some (.int .u64 (y : Int)) := by rw [hy]; exact hTz.ra.cell (by rw [HA.out]; omega)
    have hol : o < k := by omega
    have hZl : Z.length = k := by rw [hMz.2.2.1, HMl.out, HA.out]
    have co := hTz.rb.cell (i := o) (by rw [hZl]; exact hol)
    have fo := hTz.rb.frozen o
    have hxl : x < 2 ^ 64 := by
      have hjl : j < A.length := by rw [HA.out]; omega
      rw [hx, List.getD_eq_getElem?_getD, List.getElem?_eq_getElem hjl]
      exact HAlt.out _ (List.getElem_mem hjl)
    have hyl : y < 2 ^ 64 := by
      have hil : i < A.length := by rw [HA.out]; omega
      rw [hy, List.getD_eq_getElem?_getD, List.getElem?_eq_getElem hil]
      exact HAlt.out _ (List.getElem_mem hil)
    have HC1 : Hid (∀ W', Calls Try.prog 9 #[.int .u64 (x : Int), .int .u64 lo] W' fun e w' => e = .returned (.int .u64 ((Qxb6604273a.hi lo x : Nat) : Int)) ∧ w' = W') := fun W' => hipart_any x lo W' hxl
    have HC2 : Hid (∀ W', Calls Try.prog 9 #[.int .u64 (y : Int), .int .u64 lo] W' fun e w' => e = .returned (.int .u64 ((Qxb6604273a.hi lo y : Nat) : Int)) ∧ w' = W') := fun W' => hipart_any y lo W' hyl
    have bi0 : (0 : Int) ≤ (i : Int) := by omega
    have bi1 : (i : Int) < (k : Int) := by omega
    have bj0 : (0 : Int) ≤ (j : Int) := by omega
    have bj1 : (j : Int) < (k : Int) := by omega
    have bo0 : (0 : Int) ≤ (o : Int) := by omega
    have bo1 : (o : Int) < (k : Int) := by omega
    rw [← ho]
    by_cases hc : Qxb6604273a.hi lo x < Qxb6604273a.hi lo y
    · have hS := hMz.second hi hj (by rw [HA.out]; omega) (by rw [HA.out]; omega) (by rw [← hx, ← hy]; exact hc)
      rw [← ho, ← hx] at hS
      have HS : Hid (Mrg (Qxb6604273a.hi lo) A M (Z.set o x) i (j + 1) mid top T) := hS.2
      have hTs := fun q => (hTz.drewN q).store o x
      have Ho : Hid (o = i + (j - mid)) := ho
      have hd : ((Qxb6604273a.hi lo x : Nat) : Int) < ((Qxb6604273a.hi lo y : Nat) : Int) := by omega
      clear hS hMz hTz hx hy ho hxl hyl hc
      generalize Qxb6604273a.hi lo x = p1 at HC1 hd
      generalize Qxb6604273a.hi lo y = p2 at HC2 hd
      go_wp2_with fail
      go_quiet (first | (go_at_call_of 9 (Value.int IntKind.u64 (x : Int)); exact Calls.quiet_of_same (HC1.out _)) | (go_at_call_of 9 (Value.int IntKind.u64 (y : Int)); exact Calls.quiet_of_same (HC2.out _)))
      go_wp2
      go_roundg (mid - i + (top - (j + 1)))
      case measure => omega
      case rel => exact ⟨i, j + 1, Z.set o x, rfl, rfl, by go_num, by have := Ho.out; go_num, hi1, by omega, by omega, HS.out, hTs _⟩
    · have hS := hMz.first hi hj (by rw [HA.out]; omega) (by rw [HA.out]; omega) (by rw [← hx, ← hy]; exact hc)
      rw [← ho, ← hy] at hS
      have HS : Hid (Mrg (Qxb6604273a.hi lo) A M (Z.set o y) (i + 1) j mid top T) := hS.2
      have hTs := fun q => (hTz.drewN q).store o y
      have Ho : Hid (o = i + (j - mid)) := ho
      have hd : ¬ ((Qxb6604273a.hi lo x : Nat) : Int) < ((Qxb6604273a.hi lo y : Nat) : Int) := by omega
      clear hS hMz hTz hx hy ho hxl hyl hc
      generalize Qxb6604273a.hi lo x = p1 at HC1 hd
      generalize Qxb6604273a.hi lo y = p2 at HC2 hd
      go_wp2_with fail
      go_quiet (first | (go_at_call_of 9 (Value.int IntKind.u64 (x : Int)); exact Calls.quiet_of_same (HC1.out _)) | (go_at_call_of 9 (Value.int IntKind.u64 (y : Int)); exact Calls.quiet_of_same (HC2.out _)))
      go_wp2
      go_roundg (mid - (i + 1) + (top - j))
      case measure => omega
      case rel => exact ⟨i + 1, j, Z.set o y, rfl, by go_num, rfl, by have := Ho.out; go_num, by omega, hj1, hj2, HS.out, hTs _⟩
  case rest =>
  obtain ⟨i0, j0, Y0, rfl, rfl, rfl, hi1, hj1, hj2, hij, hMy, hTy⟩ := hcut
  clear hMg hT2
  have HIJ : Hid (i0 < mid → j0 = top) := hij
  clear hij
  go_wp2_with fail
  go_loopg [13, 15] (mid - i0) (fun g vi vo wx => ∃ (i : Nat) (Y : List Nat), g = mid - i ∧ vi = .int .i64 i ∧ vo = .int .i64 ((i + (j0 - mid) : Nat) : Int) ∧ i ≤ mid ∧ i0 ≤ i ∧ Mrg (hi lo) A M Y i j0 mid top T ∧ Two w.heap.size w wx ga gb A Y)
  case atStart => exact ⟨i0, Y0, rfl, rfl, rfl, hi1, Nat.le_refl _, hMy, hTy⟩
  case round =>
  obtain ⟨i, Z, rfl, rfl, rfl, hi2, hi3, hMz, hTz⟩ := hrel
  clear hMy hTy
  by_cases hi : i < mid
  · have hjt : j0 = top := HIJ.out (by omega)
    obtain ⟨y, hy⟩ : ∃ y, y = A.getD i 0 := ⟨_, rfl⟩
    obtain ⟨o, ho⟩ : ∃ o, o = i + (j0 - mid) := ⟨_, rfl⟩
    have ci : wr.cell? ⟨ga, i, none⟩ = some (.int .u64 (y : Int)) := by rw [hy]; exact hTz.ra.cell (by rw [HA.out]; omega)
    have hol : o < k := by omega
    have hZl : Z.length = k := by rw [hMz.2.2.1, HMl.out, HA.out]
    have co := hTz.rb.cell (i := o) (by rw [hZl]; exact hol)
    have fo := hTz.rb.frozen o
    have hS := hMz.left hi (by omega) (by rw [HA.out]; omega)
    rw [← ho, ← hy] at hS
    have HS : Hid (Mrg (Qxb6604273a.hi lo) A M (Z.set o y) (i + 1) j0 mid top T) := hS.2
    have hTs := hTz.store o y
    have Ho : Hid (o = i + (j0 - mid)) := ho
    rw [← ho]
    clear hS hMz hTz hy ho hjt hZl
    go_wp2
    go_roundg (mid - (i + 1))
    case measure => omega
    case rel => exact ⟨i + 1, Z.set o y, rfl, by go_num, by have := Ho.out; go_num, by omega, by omega, HS.out, hTs⟩
  obtain rfl : i = mid := by omega
  clear HIJ hi
  go_wp2_with fail
  go_loopg [14, 15] (top - j0) (fun g vj vo wx => ∃ (j : Nat) (Y : List Nat), g = top - j ∧ vj = .int .i64 j ∧ vo = .int .i64 ((i + (j - i) : Nat) : Int) ∧ j ≤ top ∧ i ≤ j ∧ Mrg (hi lo) A M Y i j i top T ∧ Two w.heap.size w wx ga gb A Y)
  case atStart => exact ⟨j0, Z, rfl, rfl, rfl, hj2, hj1, hMz, hTz⟩
  case round =>
  obtain ⟨j, Z2, rfl, rfl, rfl, hj3, hj4, hMq, hTq⟩ := hrel
  clear hMz hTz
  by_cases hj : j < top
  · obtain ⟨y, hy⟩ : ∃ y, y = A.getD j 0 := ⟨_, rfl⟩
    obtain ⟨o, ho⟩ : ∃ o, o = i + (j - i) := ⟨_, rfl⟩
    have ci : wr.cell? ⟨ga, j, none⟩ = some (.int .u64 (y : Int)) := by rw [hy]; exact hTq.ra.cell (by rw [HA.out]; omega)
    have hol : o < k := by omega
    have hZl : Z2.length = k := by rw [hMq.2.2.1, HMl.out, HA.out]
    have co := hTq.rb.cell (i := o) (by rw [hZl]; exact hol)
    have fo := hTq.rb.frozen o
    have hS := hMq.right (Nat.le_refl _) hj (by rw [HA.out]; omega)
    rw [← ho, ← hy] at hS
    have HS : Hid (Mrg (Qxb6604273a.hi lo) A M (Z2.set o y) i (j + 1) i top T) := hS.2
    have hTs := hTq.store o y
    have Ho : Hid (o = i + (j - i)) := ho
    rw [← ho]
    clear hS hMq hTq hy ho hZl
    go_wp2
    go_roundg (top - (j + 1))
    case measure => omega
    case rel => exact ⟨j + 1, Z2.set o y, rfl, by go_num, by have := Ho.out; go_num, by omega, by omega, HS.out, hTs⟩
  obtain rfl : j = top := by omega
  have hN := Pas.next (W := W) (lo := l) hMq HMl.out (by rw [HA.out]; exact Htop.out) HTT.out
  clear hMq hj
  go_wp2
  go_roundg (k - (l + 2 * W))
  case measure => omega
  case rel => exact ⟨l + 2 * W, Z2, rfl, by go_num, by omega, hN, hTq⟩

end Go.Proofs.Qxb6604273a
