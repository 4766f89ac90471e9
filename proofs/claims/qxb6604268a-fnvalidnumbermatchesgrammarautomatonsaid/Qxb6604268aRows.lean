/-
  No cell of these rows narrows 'for every input' (looked for: loops, veiled, ifaces, maps, wideKeys, modest, calm, conditions, laid).
  DERIVED. THE GIVEN ROWS OF THIS SEAT. 4 by the template 'for every input the law returns true; each argument reads behind the call as it read before'; 0 by the template 'total and deterministic' (their statements: Qxb6604268aTotals.lean).
  GIVEN WITH THE SEED: the statements are not yours to turn. If you find one false, say at which input.
  Laid BY PROGRAM, IN A SANDBOX (cutbox-rows.mjs): the forced cells as the released guide's own fill.sh prints them over the translation ca02832b3eba2042… (all of the seat's roots in one cut). By AI agents, Wed Nov 11 2026. No macro, syntax, notation, axiom, sorry.
-/
import Derived.Test.Qxb6604268aChecked
import GoSem.Claim
import GoSem.ClaimJoined
import GoSem.ClaimMapViews
import Derived.JoinedTies
import Derived.KernelRfl
namespace Go.Proofs.Qxb6604268a
/- THE CELL 'sum', in the pinned program and in every row, IS THE sha256 OF THE DUMP (.gsa) THAT Qxb6604268aProg.lean LOADS. Nothing in Lean hashes anything: it is a label: what it is worth is what the hold of that sum in a sandbox is worth. -/
noncomputable def Try.pinned : Pinned := { name := "qxb6604268a", sum := "ca02832b3eba20428c06cf395ab1403448f4ee71f5c9b1895b6421b640571a2c", checked := Try.checked }
namespace Rows
def none {H : Type} : Left H := { results := [], args := [] }

/-- 'zzlaws_internal_orderedjson_b1.FnValidWordMatchesBytewisePrefix': WHATEVER THE INPUT: true; the input reads as it did. -/
def fnValidWordMatchesBytewisePrefixSpec : ChangeSpec := { name := "fnValidWordMatchesBytewisePrefix", fn := fun _ => fun
  | [d1, d2, d3] => { results := [.lit (.bool true)], args := [d1, d2, d3] }
  | _ => none }
def fnValidWordMatchesBytewisePrefixRow : OpenClaim := { program := "qxb6604268a", sum := "ca02832b3eba20428c06cf395ab1403448f4ee71f5c9b1895b6421b640571a2c", func := "example.com/sizeloom/sizeloom/zzlaws_internal_orderedjson_b1.FnValidWordMatchesBytewisePrefix", spec := "fnValidWordMatchesBytewisePrefix", apart := false }
def FnValidWordMatchesBytewisePrefixSaid : Prop := fnValidWordMatchesBytewisePrefixRow.holds Try.pinned (OpenSpec.ofChange fnValidWordMatchesBytewisePrefixSpec)

/-- ITS FALSE NEIGHBOUR: 'it returns false'. Refute it at one input. -/
def fnValidWordMatchesBytewisePrefixWrong : ChangeSpec := { name := "fnValidWordMatchesBytewisePrefix", fn := fun _ => fun
  | [d1, d2, d3] => { results := [.lit (.bool false)], args := [d1, d2, d3] }
  | _ => none }
def FnValidWordMatchesBytewisePrefixWrongFalsely : Prop := fnValidWordMatchesBytewisePrefixRow.holds Try.pinned (OpenSpec.ofChange fnValidWordMatchesBytewisePrefixWrong)

/-- 'zzlaws_internal_orderedjson_b1.FnValidNumberMatchesGrammarAutomaton': WHATEVER THE INPUT: true; the input reads as it did. -/
def fnValidNumberMatchesGrammarAutomatonSpec : ChangeSpec := { name := "fnValidNumberMatchesGrammarAutomaton", fn := fun _ => fun
  | [d1, d2] => { results := [.lit (.bool true)], args := [d1, d2] }
  | _ => none }
def fnValidNumberMatchesGrammarAutomatonRow : OpenClaim := { program := "qxb6604268a", sum := "ca02832b3eba20428c06cf395ab1403448f4ee71f5c9b1895b6421b640571a2c", func := "example.com/sizeloom/sizeloom/zzlaws_internal_orderedjson_b1.FnValidNumberMatchesGrammarAutomaton", spec := "fnValidNumberMatchesGrammarAutomaton", apart := false }
def FnValidNumberMatchesGrammarAutomatonSaid : Prop := fnValidNumberMatchesGrammarAutomatonRow.holds Try.pinned (OpenSpec.ofChange fnValidNumberMatchesGrammarAutomatonSpec)

/-- ITS FALSE NEIGHBOUR: 'it returns false'. Refute it at one input. -/
def fnValidNumberMatchesGrammarAutomatonWrong : ChangeSpec := { name := "fnValidNumberMatchesGrammarAutomaton", fn := fun _ => fun
  | [d1, d2] => { results := [.lit (.bool false)], args := [d1, d2] }
  | _ => none }
def FnValidNumberMatchesGrammarAutomatonWrongFalsely : Prop := fnValidNumberMatchesGrammarAutomatonRow.holds Try.pinned (OpenSpec.ofChange fnValidNumberMatchesGrammarAutomatonWrong)

/-- 'zzlaws_internal_orderedjson_b1.FnValidNumberStopsWithinDataAndReadsNoFurther': WHATEVER THE INPUT: true; the input reads as it did. -/
def fnValidNumberStopsWithinDataAndReadsNoFurtherSpec : ChangeSpec := { name := "fnValidNumberStopsWithinDataAndReadsNoFurther", fn := fun _ => fun
  | [d1, d2] => { results := [.lit (.bool true)], args := [d1, d2] }
  | _ => none }
def fnValidNumberStopsWithinDataAndReadsNoFurtherRow : OpenClaim := { program := "qxb6604268a", sum := "ca02832b3eba20428c06cf395ab1403448f4ee71f5c9b1895b6421b640571a2c", func := "example.com/sizeloom/sizeloom/zzlaws_internal_orderedjson_b1.FnValidNumberStopsWithinDataAndReadsNoFurther", spec := "fnValidNumberStopsWithinDataAndReadsNoFurther", apart := false }
def FnValidNumberStopsWithinDataAndReadsNoFurtherSaid : Prop := fnValidNumberStopsWithinDataAndReadsNoFurtherRow.holds Try.pinned (OpenSpec.ofChange fnValidNumberStopsWithinDataAndReadsNoFurtherSpec)

/-- ITS FALSE NEIGHBOUR: 'it returns false'. Refute it at one input. -/
def fnValidNumberStopsWithinDataAndReadsNoFurtherWrong : ChangeSpec := { name := "fnValidNumberStopsWithinDataAndReadsNoFurther", fn := fun _ => fun
  | [d1, d2] => { results := [.lit (.bool false)], args := [d1, d2] }
  | _ => none }
def FnValidNumberStopsWithinDataAndReadsNoFurtherWrongFalsely : Prop := fnValidNumberStopsWithinDataAndReadsNoFurtherRow.holds Try.pinned (OpenSpec.ofChange fnValidNumberStopsWithinDataAndReadsNoFurtherWrong)

/-- 'zzlaws_internal_orderedjson_b1.FnValidNumberShiftInvariant': WHATEVER THE INPUT: true; the input reads as it did. -/
def fnValidNumberShiftInvariantSpec : ChangeSpec := { name := "fnValidNumberShiftInvariant", fn := fun _ => fun
  | [d1, d2] => { results := [.lit (.bool true)], args := [d1, d2] }
  | _ => none }
def fnValidNumberShiftInvariantRow : OpenClaim := { program := "qxb6604268a", sum := "ca02832b3eba20428c06cf395ab1403448f4ee71f5c9b1895b6421b640571a2c", func := "example.com/sizeloom/sizeloom/zzlaws_internal_orderedjson_b1.FnValidNumberShiftInvariant", spec := "fnValidNumberShiftInvariant", apart := false }
def FnValidNumberShiftInvariantSaid : Prop := fnValidNumberShiftInvariantRow.holds Try.pinned (OpenSpec.ofChange fnValidNumberShiftInvariantSpec)

/-- ITS FALSE NEIGHBOUR: 'it returns false'. Refute it at one input. -/
def fnValidNumberShiftInvariantWrong : ChangeSpec := { name := "fnValidNumberShiftInvariant", fn := fun _ => fun
  | [d1, d2] => { results := [.lit (.bool false)], args := [d1, d2] }
  | _ => none }
def FnValidNumberShiftInvariantWrongFalsely : Prop := fnValidNumberShiftInvariantRow.holds Try.pinned (OpenSpec.ofChange fnValidNumberShiftInvariantWrong)

end Rows
end Go.Proofs.Qxb6604268a
