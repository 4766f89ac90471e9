/-
  No cell of these rows narrows 'for every input' (looked for: loops, veiled, ifaces, maps, wideKeys, modest, calm, conditions, laid).
  DERIVED. THE GIVEN ROWS OF THIS SEAT. 1 by the template 'for every input the law returns true; each argument reads behind the call as it read before'; 0 by the template 'total and deterministic' (their statements: Qxb6604273aTotals.lean).
  GIVEN WITH THE SEED: the statements are not yours to turn. If you find one false, say at which input.
  Laid BY PROGRAM, IN A SANDBOX (cutbox-rows.mjs): the forced cells as the released guide's own fill.sh prints them over the translation 7434c090b8403472… (all of the seat's roots in one cut). By AI agents, Wed Nov 11 2026. No macro, syntax, notation, axiom, sorry.
-/
import Derived.Test.Qxb6604273aChecked
import GoSem.Claim
import GoSem.ClaimJoined
import GoSem.ClaimMapViews
import Derived.JoinedTies
import Derived.KernelRfl
namespace Go.Proofs.Qxb6604273a
/- THE CELL 'sum', in the pinned program and in every row, IS THE sha256 OF THE DUMP (.gsa) THAT Qxb6604273aProg.lean LOADS. Nothing in Lean hashes anything: it is a label: what it is worth is what the hold of that sum in a sandbox is worth. -/
noncomputable def Try.pinned : Pinned := { name := "qxb6604273a", sum := "7434c090b8403472df74cba52740a48793ba5609d063f36167d07b3f5a073dd7", checked := Try.checked }
namespace Rows
def none {H : Type} : Left H := { results := [], args := [] }

/-- 'zzlaws_root_b1.FnRadixSortIsStableSortByHighBits': WHATEVER THE INPUT: true; the input reads as it did. -/
def fnRadixSortIsStableSortByHighBitsSpec : ChangeSpec := { name := "fnRadixSortIsStableSortByHighBits", fn := fun _ => fun
  | [d1, d2] => { results := [.lit (.bool true)], args := [d1, d2] }
  | _ => none }
def fnRadixSortIsStableSortByHighBitsRow : OpenClaim := { program := "qxb6604273a", sum := "7434c090b8403472df74cba52740a48793ba5609d063f36167d07b3f5a073dd7", func := "example.com/tarn/tarn/zzlaws_root_b1.FnRadixSortIsStableSortByHighBits", spec := "fnRadixSortIsStableSortByHighBits", apart := false }
def FnRadixSortIsStableSortByHighBitsSaid : Prop := fnRadixSortIsStableSortByHighBitsRow.holds Try.pinned (OpenSpec.ofChange fnRadixSortIsStableSortByHighBitsSpec)

/-- ITS FALSE NEIGHBOUR: 'it returns false'. Refute it at one input. -/
def fnRadixSortIsStableSortByHighBitsWrong : ChangeSpec := { name := "fnRadixSortIsStableSortByHighBits", fn := fun _ => fun
  | [d1, d2] => { results := [.lit (.bool false)], args := [d1, d2] }
  | _ => none }
def FnRadixSortIsStableSortByHighBitsWrongFalsely : Prop := fnRadixSortIsStableSortByHighBitsRow.holds Try.pinned (OpenSpec.ofChange fnRadixSortIsStableSortByHighBitsWrong)

end Rows
end Go.Proofs.Qxb6604273a
