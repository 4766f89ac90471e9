/-
  Seat b6604251a: the look-ups of the law's map as run equations over every later world; AnnouncedFormat; textBytesTableB1.
-/
import Derived.Test.Qxb6604251aRows
import Derived.WalkKit
import Derived.Maps.OwnSet
import Derived.ProofKit
import Derived.OpenShut
namespace Go.Proofs.Qxb6604251a
open Go.RowKit Go.Maps Go.WideMaps

theorem lawK : Keyed Try.prog 9 := string_keyed Try.underlying9
theorem zeroE (w : World) : (zeroValue 22).run Try.prog w = .ok (.int .u64 0) w := by kernel_rfl

/-- WHAT THE LAW NEEDS OF ITS MAP: in every world that is as w was below block B, a look-up at the string s gives F s (and Ok s); where it is not there F s is 0; its length is some number. -/
structure Looks (B : Nat) (w : World) (m : Value) (F : ByteArray → Int) (Ok : ByteArray → Bool) (L : Int) : Prop where
  two : ∀ w', Below B w w' → ∀ s : ByteArray, s.size ≤ maxLen → (Instr.lookup 25 m (.string s) true).run Try.prog w' = .ok (.tuple #[.int .u64 (F s), .bool (Ok s)]) w'
  one : ∀ w', Below B w w' → ∀ s : ByteArray, s.size ≤ maxLen → (Instr.lookup 25 m (.string s) false).run Try.prog w' = .ok (.int .u64 (F s)) w'
  len : ∀ w', Below B w w' → ∀ ty, (Builtin.len_ #[25] ty #[m]).run Try.prog w' = .ok (.int .i64 L) w'
  no : ∀ s : ByteArray, s.size ≤ maxLen → Ok s = false → F s = 0
  pos : ∀ s : ByteArray, s.size ≤ maxLen → 0 ≤ F s

theorem Looks.later {B : Nat} {w w' : World} {m : Value} {F : ByteArray → Int} {Ok : ByteArray → Bool} {L : Int} (h : Looks B w m F Ok L) (hb : Below B w w') : Looks B w' m F Ok L :=
  ⟨fun x hx => h.two x (hb.trans hx), fun x hx => h.one x (hb.trans hx), fun x hx => h.len x (hb.trans hx), h.no, h.pos⟩

theorem looks_nil (B : Nat) (w : World) : Looks B w (.map none) (fun _ => 0) (fun _ => false) 0 where
  two w' _ s hs := by simpa using look_nil (w := w') true lawK Try.underlying25 (zeroE w') (keyOf_string_mk Try.underlying9 hs)
  one w' _ s hs := by simpa using look_nil (w := w') false lawK Try.underlying25 (zeroE w') (keyOf_string_mk Try.underlying9 hs)
  len w' _ ty := len_nil (w := w') Try.underlying25 ty
  no _ _ _ := rfl
  pos _ _ := Int.le_refl _

/-- The number that a datum is. -/
def numOf {H : Type} : DataW H → Int
  | .lit (.int _ a) => a
  | _ => 0

theorem looks_some {H : Type} {B b n : Nat} {w : World} {D : DataW H} (hown : w.ownsMap Try.prog 9 (plainElem Try.prog 22) b n D) (hb : b < B) :
    ∃ F Ok L, Looks B w (.map (some b)) F Ok L := by
  have later : ∀ w', Below B w w' → w'.ownsMap Try.prog 9 (plainElem Try.prog 22) b n D := by
    intro w' hw'
    obtain ⟨es, clock, h1, h2⟩ := hown
    exact ⟨es, clock, by rw [hw'.block b hb]; exact h1, h2⟩
  refine ⟨fun s => numOf (D.atKey (.string s.data.toList) (.lit (.int .u64 0))), fun s => Maps.has D (.string s.data.toList), Maps.size D, ?_, ?_, ?_, ?_, ?_⟩
  · intro w' hw' s hs
    obtain ⟨v, ps, hrun, hv⟩ := (later w' hw').look_ok lawK Try.underlying25 (zeroE w') (plainElem_int Try.underlying22 (by decide)) (keyOf_string_mk Try.underlying9 hs)
    obtain ⟨c, rfl, hc, _⟩ := plainElem_int_inv Try.underlying22 hv
    have := congrArg Prod.fst hc
    simp only at this
    rw [hrun, this]; rfl
  · intro w' hw' s hs
    obtain ⟨es, clock, h1, F, h3, rfl⟩ := later w' hw'
    rcases Maps.fit_look false lawK Try.underlying25 (zeroE w') h1 F (keyOf_string_mk Try.underlying9 hs) with ⟨hrun, _, hat⟩ | ⟨e0, y, _, _, hrun, hRv, hat, _⟩
    · rw [hat]; simpa [numOf] using hrun
    · rw [hat]
      obtain ⟨c, hc0, hc, _⟩ := plainElem_int_inv Try.underlying22 hRv
      rw [hc, hrun, hc0]; rfl
  · intro w' hw' ty
    exact (later w' hw').len Try.underlying25 ty
  · intro s hs hok
    rw [atKey_of_not_has hok]; rfl
  · intro s hs
    obtain ⟨v, ps, hrun, hv⟩ := hown.look_ok lawK Try.underlying25 (zeroE w) (plainElem_int Try.underlying22 (by decide)) (keyOf_string_mk Try.underlying9 hs)
    obtain ⟨c, rfl, hc, hw⟩ := plainElem_int_inv Try.underlying22 hv
    have := congrArg Prod.fst hc
    simp only at this ⊢
    rw [this]
    exact (bounds_u64 hw).1

end Go.Proofs.Qxb6604251a
