/-
  NARROWER THAN 'FOR EVERY INPUT', by the rows' own cells (each row's printed sentence says how): FnLowestFormatIsAttainedLowerBound: maps.
  DERIVED. THE GIVEN ROWS OF THIS SEAT. 1 by the template 'for every input the law returns true; each argument reads behind the call as it read before'; 0 by the template 'total and deterministic' (their statements: Qxb6604251aTotals.lean).
  GIVEN WITH THE SEED: the statements are not yours to turn. If you find one false, say at which input.
  Laid BY PROGRAM, IN A SANDBOX (cutbox-rows.mjs): the forced cells as the released guide's own fill.sh prints them over the translation 0482d893dcf41f25… (all of the seat's roots in one cut). By AI agents, Wed Nov 11 2026. No macro, syntax, notation, axiom, sorry.
-/
import Derived.Test.Qxb6604251aChecked
import GoSem.Claim
import GoSem.ClaimJoined
import GoSem.ClaimMapViews
import Derived.JoinedTies
import Derived.KernelRfl
namespace Go.Proofs.Qxb6604251a
/- THE CELL 'sum', in the pinned program and in every row, IS THE sha256 OF THE DUMP (.gsa) THAT Qxb6604251aProg.lean LOADS. Nothing in Lean hashes anything: it is a label: what it is worth is what the hold of that sum in a sandbox is worth. -/
noncomputable def Try.pinned : Pinned := { name := "qxb6604251a", sum := "0482d893dcf41f25371465511787ff24b1771fdcfb12e792724399eb5049c7ac", checked := Try.checked }
namespace Rows
def none {H : Type} : Left H := { results := [], args := [] }

/-- 'zzlaws_internal_table_b1.FnLowestFormatIsAttainedLowerBound': WHATEVER THE INPUT: true; the input reads as it did. -/
def fnLowestFormatIsAttainedLowerBoundSpec : ChangeSpec := { name := "fnLowestFormatIsAttainedLowerBound", fn := fun _ => fun
  | [d1, d2, d3, d4, d5] => { results := [.lit (.bool true)], args := [d1, d2, d3, d4, d5] }
  | _ => none }
def fnLowestFormatIsAttainedLowerBoundRow : OpenClaim := { program := "qxb6604251a", sum := "0482d893dcf41f25371465511787ff24b1771fdcfb12e792724399eb5049c7ac", func := "example.com/tenure/tenure/zzlaws_internal_table_b1.FnLowestFormatIsAttainedLowerBound", spec := "fnLowestFormatIsAttainedLowerBound", maps := true, apart := false }
def FnLowestFormatIsAttainedLowerBoundSaid : Prop := fnLowestFormatIsAttainedLowerBoundRow.holds Try.pinned (OpenSpec.ofChange fnLowestFormatIsAttainedLowerBoundSpec)

/-- ITS FALSE NEIGHBOUR: 'it returns false'. Refute it at one input. -/
def fnLowestFormatIsAttainedLowerBoundWrong : ChangeSpec := { name := "fnLowestFormatIsAttainedLowerBound", fn := fun _ => fun
  | [d1, d2, d3, d4, d5] => { results := [.lit (.bool false)], args := [d1, d2, d3, d4, d5] }
  | _ => none }
def FnLowestFormatIsAttainedLowerBoundWrongFalsely : Prop := fnLowestFormatIsAttainedLowerBoundRow.holds Try.pinned (OpenSpec.ofChange fnLowestFormatIsAttainedLowerBoundWrong)

end Rows
end Go.Proofs.Qxb6604251a
