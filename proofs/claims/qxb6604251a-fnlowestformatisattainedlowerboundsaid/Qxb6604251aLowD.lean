/-
  Seat b6604251a: makeMembersTableB1.
-/
import Derived.Test.Qxb6604251aLowC
import Derived.Deep.RegionHeld3
import Derived.Deep.AppendLies
namespace Go.Proofs.Qxb6604251a
open Go.RowKit Go.Maps Go.WideMaps

theorem Try.info31 : (Try.prog.info? 31).map (fun i => (i.zero, i.size, i.bytes)) = some (some (.agg #[.string ByteArray.empty, .string ByteArray.empty, .bool false]), 3, 40) := by kernel_rfl

/-- WHAT IS KNOWN OF A SLICE OF BOOLS THAT CAME IN (its first n cells). -/
def BoolRow (w : World) (a : Option Addr) (n : Nat) (T : Nat → Bool) : Prop :=
  ∀ i, i < n → ∃ b off, a = some ⟨b, off, none⟩ ∧ b < w.heap.size ∧ w.cell? ⟨b, off + i, none⟩ = some (.bool (T i))

/-- The cells of the first k members. -/
def mem (S A : Nat → ByteArray) (T : Nat → Bool) : Nat → List Value
  | 0 => []
  | k + 1 => mem S A T k ++ [.string (S k), .string (A k), .bool (T k)]

theorem mem_length (S A : Nat → ByteArray) (T : Nat → Bool) (k : Nat) : (mem S A T k).length = k * 3 := by
  induction k with
  | zero => rfl
  | succ k ih => simp [mem, ih]; omega

theorem mem_get (S A : Nat → ByteArray) (T : Nat → Bool) (n i : Nat) (hi : i < n) : (mem S A T n)[i * 3]? = some (.string (S i)) ∧ (mem S A T n)[i * 3 + 1]? = some (.string (A i)) ∧ (mem S A T n)[i * 3 + 2]? = some (.bool (T i)) := by
  induction n with
  | zero => omega
  | succ n ih =>
    have hl := mem_length S A T n
    simp only [mem]
    by_cases h : i < n
    · rw [List.getElem?_append_left (by omega), List.getElem?_append_left (by omega), List.getElem?_append_left (by omega)]
      exact ih h
    · obtain rfl : i = n := by omega
      rw [List.getElem?_append_right (by omega), List.getElem?_append_right (by omega), List.getElem?_append_right (by omega), hl]
      simp

theorem memRow_of {w : World} {base g n cap : Nat} {S A : Nat → ByteArray} {T : Nat → Bool} (h : w.ownsRow base 31 3 (.slice (some ⟨g, 0, none⟩) n cap) n (mem S A T n)) (hg : g < w.heap.size) (hs : ∀ i, i < n → (S i).size ≤ maxLen) : MemRow w g n S A T := by
  refine ⟨hg, fun i hi => ?_⟩
  obtain ⟨h0, h1, h2⟩ := mem_get S A T n i hi
  rw [h.cellAt _ (by omega), h.cellAt _ (by omega), h.cellAt _ (by omega)]
  exact ⟨h0, h1, h2, hs i hi⟩

theorem ownsRow_lt {w : World} {base e size g n cap : Nat} {xs : List Value} (h : w.ownsRow base e size (.slice (some ⟨g, 0, none⟩) n cap) n xs) : g < w.heap.size := by
  rcases h.2 with ⟨h', _⟩ | ⟨g', cap', cur, h', _, hg, _⟩
  · simp at h'
  · simp only [Value.slice.injEq, Option.some.injEq, Addr.mk.injEq, and_true, true_and] at h'
    obtain ⟨rfl, rfl⟩ := h'
    exact (Array.getElem?_eq_some_iff.1 hg).1

set_option maxRecDepth 100000 in
set_option maxHeartbeats 3200000 in
theorem members_any (a0 a1 a2 : Option Addr) (n c0 c1 c2 : Nat) (S A : Nat → ByteArray) (T : Nat → Bool) (w : World) (hn : n ≤ 65536) (hS : StrRow w a0 n S) (hA : StrRow w a1 n A) (hT : BoolRow w a2 n T) :
    Calls Try.prog 5 #[.slice a0 n c0, .slice a1 n c1, .slice a2 n c2] w fun e w' => ∃ g cap, e = .returned (.slice (some ⟨g, 0, none⟩) n cap) ∧ MemRow w' g n S A T ∧ Below w.heap.size w w' := by
  obtain ⟨i0, hi0, hz0, hz1, hz2⟩ := info_parts Try.info31
  go_enter Try.func5, Try.ntmps5
  go_wp2_with (first | (at_make; refine wpList_make_own _ rfl _ _ 27 rfl w.heap.size 31 i0 _ 3 Try.underlying27 hi0 hz0 hz1 .i64 .i64 _ n rfl rfl rfl (by rw [hz2]; omega) (by unfold maxLen; omega) (Nat.le_refl _) ?_; intro w1 hown1 hgrow1))
  go_loopw [7, 8] (fun v i wr => ∃ k : Nat, k ≤ n ∧ i = .int .i64 k ∧ ∃ g cap, v = .slice (some ⟨g, 0, none⟩) k cap ∧ wr.ownsRow w.heap.size 31 3 (.slice (some ⟨g, 0, none⟩) k cap) k (mem S A T k) ∧ w.heap.size ≤ g ∧ g < wr.heap.size ∧ Below w.heap.size w wr) (fun _ i _ => n - (intOf i).toNat)
  case atStart => exact ⟨0, Nat.zero_le _, rfl, _, _, rfl, hown1, Nat.le_refl _, ownsRow_lt hown1, (Below.refl _ _).grown hgrow1 (Nat.le_refl _) (fun k hk => by cases hk)⟩
  case round =>
    obtain ⟨k, hk, rfl, g, cap, rfl, hown, hg, hgl, hb⟩ := hrel
    by_cases hlt : k < n
    · obtain ⟨b0, o0, rfl, l0, e0, s0⟩ := hS k hlt
      obtain ⟨b1, o1, rfl, l1, e1, s1⟩ := hA k hlt
      obtain ⟨b2, o2, rfl, l2, e2⟩ := hT k hlt
      rw [← hb.cell (p := ⟨b0, o0 + k, none⟩) l0] at e0
      rw [← hb.cell (p := ⟨b1, o1 + k, none⟩) l1] at e1
      rw [← hb.cell (p := ⟨b2, o2 + k, none⟩) l2] at e2
      have hbs := hb.size
      have hi0' : (0 : Int) ≤ (k : Int) := Int.natCast_nonneg _
      have hi1 : (k : Int) < (n : Int) := by omega
      clear hS hA hT hown1 hgrow1
      go_wp2_with fail
      go_region_held3 (fun w' => w'.cell? ⟨b0, o0 + k, none⟩ = some (.string (S k)) ∧ w'.cell? ⟨b1, o1 + k, none⟩ = some (.string (A k)) ∧ w'.cell? ⟨b2, o2 + k, none⟩ = some (.bool (T k)))
        (first
          | go_keep
          | (go_split_ands
             refine ⟨?_, ?_, ?_⟩
             · (rw [hgrow.cell_far _ (by simp; omega) (by simp [Value.ownBlock]; omega)]; assumption)
             · (rw [hgrow.cell_far _ (by simp; omega) (by simp [Value.ownBlock]; omega)]; assumption)
             · (rw [hgrow.cell_far _ (by simp; omega) (by simp [Value.ownBlock]; omega)]; assumption)))
        ((refine step_append_lies _ (by rfl) _ _ _ (by rfl) w.heap.size 31 i0 _ 3 40 Try.underlying27 hi0 hz0 hz1 hz2 rfl (by omega) (.slice (some ⟨g, 0, none⟩) k cap) k (mem S A T k) (by rfl) ((hown.alloc _).drew)
            ⟨wr.heap.size, 0, none⟩ 1 1 [.string (S k), .string (A k), .bool (T k)] (by rfl) (by rfl) (World.news_of_block (cs := #[.string (S k), .string (A k), .bool (T k)]) (t := 31) (fr := (0, 0)) (heap_alloc_new wr _)) (by simp [Value.oneCell'])
            (by omega) (by unfold maxLen; omega) (by omega) (by simp; omega) (wr.heap.size + 1) (by simp) ?_; intro gg cap' w2 hown2 hgrow hat hltg))
      have hb2 : Below w.heap.size w w2 := ((hb.alloc hbs _).drew).grown hgrow (by simp; omega) (fun j hj => by simp [Value.ownBlock] at hj; omega)
      have hgg : w.heap.size ≤ gg := by
        rcases hat with h | h
        · simp [Value.ownBlock] at h; omega
        · omega
      clear hgrow hat hb hown e0 e1 e2
      go_wp2
      go_roundw
      case rel => exact ⟨k + 1, by omega, by go_num, gg, cap', rfl, hown2, hgg, hltg, hb2⟩
      case measure => simp [intOf]; omega
    · have : k = n := by omega
      subst this
      go_wp2
      go_ret
      exact ⟨g, cap, rfl, memRow_of hown hgl (fun i hi => (hS i hi).elim fun _ h => h.elim fun _ h => h.2.2.2), hb⟩

end Go.Proofs.Qxb6604251a
