/-
  No cell of these rows narrows 'for every input' (looked for: loops, veiled, ifaces, maps, wideKeys, modest, calm, conditions, laid).
  DERIVED. THE GIVEN ROWS OF THIS SEAT. 2 by the template 'for every input the law returns true; each argument reads behind the call as it read before'; 0 by the template 'total and deterministic' (their statements: Qxb6604315aTotals.lean).
  GIVEN WITH THE SEED: the statements are not yours to turn. If you find one false, say at which input.
  Laid BY PROGRAM, IN A SANDBOX (cutbox-rows.mjs): the forced cells as the released guide's own fill.sh prints them over the translation 8ee0e6a667843390… (all of the seat's roots in one cut). By AI agents, Wed Nov 11 2026. No macro, syntax, notation, axiom, sorry.
-/
import Derived.Test.Qxb6604315aChecked
import GoSem.Claim
import GoSem.ClaimJoined
import GoSem.ClaimMapViews
import Derived.JoinedTies
import Derived.KernelRfl
namespace Go.Proofs.Qxb6604315a
/- THE CELL 'sum', in the pinned program and in every row, IS THE sha256 OF THE DUMP (.gsa) THAT Qxb6604315aProg.lean LOADS. Nothing in Lean hashes anything: it is a label: what it is worth is what the hold of that sum in a sandbox is worth. -/
noncomputable def Try.pinned : Pinned := { name := "qxb6604315a", sum := "8ee0e6a66784339086ccbd708d65892462e6610e0b81b9ced83e7c8d79976b91", checked := Try.checked }
namespace Rows
def none {H : Type} : Left H := { results := [], args := [] }

/-- 'zzlaws_internal_rawjson_b1.FnHex4MatchesDigitTable': WHATEVER THE INPUT: true; the input reads as it did. -/
def fnHex4MatchesDigitTableSpec : ChangeSpec := { name := "fnHex4MatchesDigitTable", fn := fun _ => fun
  | [d] => { results := [.lit (.bool true)], args := [d] }
  | _ => none }
def fnHex4MatchesDigitTableRow : OpenClaim := { program := "qxb6604315a", sum := "8ee0e6a66784339086ccbd708d65892462e6610e0b81b9ced83e7c8d79976b91", func := "example.com/koine/koine/zzlaws_internal_rawjson_b1.FnHex4MatchesDigitTable", spec := "fnHex4MatchesDigitTable", apart := false }
def FnHex4MatchesDigitTableSaid : Prop := fnHex4MatchesDigitTableRow.holds Try.pinned (OpenSpec.ofChange fnHex4MatchesDigitTableSpec)

/-- ITS FALSE NEIGHBOUR: 'it returns false'. Refute it at one input. -/
def fnHex4MatchesDigitTableWrong : ChangeSpec := { name := "fnHex4MatchesDigitTable", fn := fun _ => fun
  | [d] => { results := [.lit (.bool false)], args := [d] }
  | _ => none }
def FnHex4MatchesDigitTableWrongFalsely : Prop := fnHex4MatchesDigitTableRow.holds Try.pinned (OpenSpec.ofChange fnHex4MatchesDigitTableWrong)

/-- 'zzlaws_internal_rawjson_b1.FnHex4ReadsBackFourDigits': WHATEVER THE INPUT: true; the input reads as it did. -/
def fnHex4ReadsBackFourDigitsSpec : ChangeSpec := { name := "fnHex4ReadsBackFourDigits", fn := fun _ => fun
  | [d1, d2] => { results := [.lit (.bool true)], args := [d1, d2] }
  | _ => none }
def fnHex4ReadsBackFourDigitsRow : OpenClaim := { program := "qxb6604315a", sum := "8ee0e6a66784339086ccbd708d65892462e6610e0b81b9ced83e7c8d79976b91", func := "example.com/koine/koine/zzlaws_internal_rawjson_b1.FnHex4ReadsBackFourDigits", spec := "fnHex4ReadsBackFourDigits", apart := false }
def FnHex4ReadsBackFourDigitsSaid : Prop := fnHex4ReadsBackFourDigitsRow.holds Try.pinned (OpenSpec.ofChange fnHex4ReadsBackFourDigitsSpec)

/-- ITS FALSE NEIGHBOUR: 'it returns false'. Refute it at one input. -/
def fnHex4ReadsBackFourDigitsWrong : ChangeSpec := { name := "fnHex4ReadsBackFourDigits", fn := fun _ => fun
  | [d1, d2] => { results := [.lit (.bool false)], args := [d1, d2] }
  | _ => none }
def FnHex4ReadsBackFourDigitsWrongFalsely : Prop := fnHex4ReadsBackFourDigitsRow.holds Try.pinned (OpenSpec.ofChange fnHex4ReadsBackFourDigitsWrong)

end Rows
end Go.Proofs.Qxb6604315a
