/-
  Seat b6604251a: 'Rows.FnLowestFormatIsAttainedLowerBoundSaid', proved.
-/
import Derived.Test.Qxb6604251aLowF
import Derived.ShutString
import Derived.ChangeOld
import Derived.Deep.Strs
namespace Go.Proofs.Qxb6604251a
open Go.ChangeShapes Go.WideShapes Go.ChangeAt Go.RowKit
open Go.ChangeMaps (open_string shut_string)
set_option linter.unusedVariables false

theorem own : ownKnob Try.prog.godebug = none := by kernel_rfl
theorem laidOut : laidOutB Try.prog = true := by kernel_rfl

section
variable {H : Type} {enc : TypeId × Value → H} {W : World} {base : Nat}

/-- A slice of strings that came in, opened for the walk. -/
theorem strRow_of {d : DataW H} {p : List MemPlace} {a : Option Addr} {len cap : Nat} (h : DataW.Trod enc Try.prog W 0 (fun _ => true) true 23 (.slice a len cap) d p) :
    ∃ S, StrRow W a len S ∧ len ≤ maxLen := by
  obtain ⟨m, hm⟩ := h
  have hlt := DataW.trod_lt m _ _ _ hm
  rcases Deep.open_strs Try.underlying23 Try.underlying9 (by kernel_rfl) hm with ⟨hcs, _⟩ | ⟨x, l, c, mm, Sx, hcs, _, hl, hmx, hmm, hx, hcell⟩
  · simp [Value.cells] at hcs
    obtain ⟨rfl, rfl, rfl⟩ := hcs
    exact ⟨fun _ => ByteArray.empty, fun i hi => by omega, by omega⟩
  · simp [Value.cells] at hcs
    obtain ⟨rfl, rfl, rfl⟩ := hcs
    refine ⟨Sx, fun i hi => ?_, by omega⟩
    have hmi : i < mm := by simp at hmm; omega
    obtain ⟨h1, h2⟩ := hcell i hmi
    obtain ⟨b, off, spot⟩ := x
    have hspot : spot = none := by simpa [Addr.add] using World.cell?_spot (hcell 0 (by omega)).1
    subst hspot
    rw [add_plain] at h1
    exact ⟨b, off, rfl, World.block_lt_of_cell? W _ h1, h1, h2⟩

theorem boolRow_of {d : DataW H} {p : List MemPlace} {a : Option Addr} {len cap : Nat} (h : DataW.Trod enc Try.prog W 0 (fun _ => true) true 24 (.slice a len cap) d p) :
    ∃ T, BoolRow W a len T := by
  obtain ⟨m, hm⟩ := h
  rcases Deep.open_slice1 Try.underlying24 (by kernel_rfl) hm with ⟨hcs, _⟩ | ⟨x, l, c, mm, n, V, D, Pl, hcs, _, hl, hmx, hmm, hx, hcell⟩
  · simp [Value.cells] at hcs
    obtain ⟨rfl, rfl, rfl⟩ := hcs
    exact ⟨fun _ => false, fun i hi => by omega⟩
  · simp [Value.cells] at hcs
    obtain ⟨rfl, rfl, rfl⟩ := hcs
    have each : ∀ i, i < mm → ∃ t : Bool, V i = .bool t := fun i hi => by
      obtain ⟨s, h1, h2⟩ := DataW.trod_bool Try.underlying4 (hcell i hi).2
      exact ⟨s, by simpa using h1⟩
    obtain ⟨T, hT⟩ := Deep.choose_lt each
    refine ⟨T, fun i hi => ?_⟩
    have hmi : i < mm := by simp at hmm; omega
    obtain ⟨h1, h2⟩ := hcell i hmi
    rw [hT i hmi] at h1
    obtain ⟨b, off, spot⟩ := x
    have hspot : spot = none := by simpa [Addr.add] using World.cell?_spot (hcell 0 (by omega)).1
    subst hspot
    rw [add_plain] at h1
    exact ⟨b, off, rfl, World.block_lt_of_cell? W _ h1, h1⟩

theorem looks_of {d : DataW H} {p : List MemPlace} {v : Value} {base : Nat} (hv : Value.okWide Try.prog W .any base 25 v) (h : DataW.Trod enc Try.prog W 0 (fun _ => true) true 25 v d p) :
    ∃ F Ok L, Looks W.heap.size W v F Ok L := by
  obtain ⟨r, rfl⟩ := okWide_map Try.underlying25 hv
  obtain ⟨m, hm⟩ := h
  rcases WideElems.open_map Try.underlying25 hm with ⟨hcs, _⟩ | ⟨bm, es, clock, n, rfl, hcs, hb, _, F, hx⟩
  · simp [Value.cells] at hcs
    subst hcs
    exact ⟨_, _, _, looks_nil _ _⟩
  · simp [Value.cells] at hcs
    subst hcs
    have hown := World.ownsMap_of_fit (R := plainElem Try.prog 22) hb F (fun x _ z hz => elemAt_plainElem_int Try.underlying22 hz)
    exact looks_some hown (Array.getElem?_eq_some_iff.1 hb).1
end

set_option maxRecDepth 100000 in
theorem lifted (os : Os) (started : os.Started) (H : Type) (enc : TypeId × Value → H) :
    ReturnsInHanded {} Try.checked os 3 .any (Rows.fnLowestFormatIsAttainedLowerBoundSpec.pre6 enc Try.prog Try.f3 Rows.fnLowestFormatIsAttainedLowerBoundRow.domain false) (Rows.fnLowestFormatIsAttainedLowerBoundSpec.post enc Try.prog Try.f3 false true false false) := by
  refine returnsInHanded_of_change (C := Try.checked) own started (by kernel_rfl) Try.func3
    (ChangeSpec.witness6 (enc := enc) (C := Try.checked) false ⟨#[], #[.int .u64 0, .slice none 0 0, .slice none 0 0, .slice none 0 0, .map none], []⟩ 8 (by kernel_rfl) (by kernel_rfl) (by kernel_rfl) (by kernel_rfl)) ?_
  intro W base args ds gs before hval0 hW hcnd _
  have hval : ∀ (j : Nat) t v, Try.f3.params[j]? = some t → args[j]? = some v → Value.okWide Try.prog W .any base t v := hval0
  have hW' := hW
  obtain ⟨p, q, hA0, hV, rfl, hfz, hnd⟩ := hW
  have hA : DataW.TrodAll enc Try.prog W 0 (fun _ => true) true Try.f3.params.toList args.toList ds p := hA0
  rw [Try.params3] at hA hval
  obtain ⟨v0, vs0, d0, ds0, p0, q0, hargs, rfl, rfl, h0, r0⟩ := trodAll_cons hA
  obtain ⟨v1, vs1, d1, ds1, p1, q1, rfl, rfl, rfl, h1, r1⟩ := trodAll_cons r0
  obtain ⟨v2, vs2, d2, ds2, p2, q2, rfl, rfl, rfl, h2, r2⟩ := trodAll_cons r1
  obtain ⟨v3, vs3, d3, ds3, p3, q3, rfl, rfl, rfl, h3, r3⟩ := trodAll_cons r2
  obtain ⟨v4, vs4, d4, ds4, p4, q4, rfl, rfl, rfl, h4, r4⟩ := trodAll_cons r3
  obtain ⟨rfl, rfl, rfl⟩ := trodAll_nil r4
  obtain rfl : args = #[v0, v1, v2, v3, v4] := by cases args; simp_all
  obtain ⟨rfl, rfl⟩ := trodVars_none hV
  obtain ⟨x0, rfl, rfl, rfl, w0⟩ := open_int Try.underlying22 (hval 0 22 v0 rfl rfl) h0
  obtain ⟨a1, len1, cap1, rfl⟩ := okWide_slice Try.underlying23 (hval 1 23 v1 rfl rfl)
  obtain ⟨a2, len2, cap2, rfl⟩ := okWide_slice Try.underlying23 (hval 2 23 v2 rfl rfl)
  obtain ⟨a3, len3, cap3, rfl⟩ := okWide_slice Try.underlying24 (hval 3 24 v3 rfl rfl)
  have hv4 := hval 4 25 v4 rfl rfl
  have lt1 : ∀ x ∈ p1, x.block < W.heap.size := by obtain ⟨m, hm⟩ := h1; exact DataW.trod_lt m _ _ _ hm
  have lt2 : ∀ x ∈ p2, x.block < W.heap.size := by obtain ⟨m, hm⟩ := h2; exact DataW.trod_lt m _ _ _ hm
  have lt3 : ∀ x ∈ p3, x.block < W.heap.size := by obtain ⟨m, hm⟩ := h3; exact DataW.trod_lt m _ _ _ hm
  have lt4 : ∀ x ∈ p4, x.block < W.heap.size := by obtain ⟨m, hm⟩ := h4; exact DataW.trod_lt m _ _ _ hm
  obtain ⟨S, hS, m1⟩ := strRow_of h1
  obtain ⟨A, hA', m2⟩ := strRow_of h2
  obtain ⟨T, hT⟩ := boolRow_of h3
  obtain ⟨F, Ok, L, hL⟩ := looks_of hv4 h4
  clear hA0 hval0
  refine (law_any x0 a1 a2 a3 len1 cap1 len2 cap2 len3 cap3 S A T v4 F Ok L W m1 m2 hS hA' hT hL).mono fun e W' ⟨he, bel⟩ => ?_
  subst he
  exact ⟨_, rfl, _, _, _, [], _, [], hW', trodAll_mk1 (shut_bool Try.underlying4 _),
    (trodAll_cons_mk (shut_int Try.underlying22 w0)
      (trodAll_cons_mk (Below.trod laidOut (by kernel_rfl) (of_decide_eq_true (by kernel_rfl)) h1 bel lt1)
        (trodAll_cons_mk (Below.trod laidOut (by kernel_rfl) (of_decide_eq_true (by kernel_rfl)) h2 bel lt2)
          (trodAll_cons_mk (Below.trod laidOut (by kernel_rfl) (of_decide_eq_true (by kernel_rfl)) h3 bel lt3)
            (trodAll_cons_mk (Below.trod laidOut (by kernel_rfl) (of_decide_eq_true (by kernel_rfl)) h4 bel lt4) trodAll_mk0))))), rfl, bel.frame _, fun h => by cases h⟩

theorem over : Rows.fnLowestFormatIsAttainedLowerBoundRow.holds Try.pinned (OpenSpec.ofChange Rows.fnLowestFormatIsAttainedLowerBoundSpec) :=
  OpenClaim.holds_of_wide 3 Try.f3 rfl rfl rfl rfl rfl rfl rfl ⟨rfl, rfl, rfl, rfl, rfl⟩ rfl rfl rfl rfl rfl (by kernel_rfl) Try.func3 (by kernel_rfl)
    (of_decide_eq_true (by kernel_rfl)) (by unfold Func.isWrapper; first | (rw [if_pos (by decide +kernel)]; kernel_rfl) | (rw [if_neg (by decide +kernel)]; exact ⟨rfl, rfl⟩))
    (fun os started H enc _ => lifted os started H enc)

/-- THE STATEMENT. -/
theorem lowest_proved : Rows.FnLowestFormatIsAttainedLowerBoundSaid := over
end Go.Proofs.Qxb6604251a
