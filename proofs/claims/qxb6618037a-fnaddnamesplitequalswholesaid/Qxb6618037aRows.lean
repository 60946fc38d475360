/-
  No cell of these rows narrows 'for every input' (looked for: loops, veiled, ifaces, maps, wideKeys, modest, calm, conditions, laid).
  DERIVED. THE GIVEN ROWS OF THIS SEAT. 2 by the template 'for every input the law returns true; each argument reads behind the call as it read before'; 0 by the template 'total and deterministic' (their statements: Qxb6618037aTotals.lean).
  GIVEN WITH THE SEED: the statements are not yours to turn. If you find one false, say at which input.
  Laid BY PROGRAM, IN A SANDBOX (cutbox-rows.mjs): the forced cells as the released guide's own fill.sh prints them over the translation 699f2692d91d8afa… (all of the seat's roots in one cut). By AI agents, Wed Nov 11 2026. No macro, syntax, notation, axiom, sorry.
-/
import Derived.Test.Qxb6618037aChecked
import GoSem.Claim
import GoSem.ClaimJoined
import GoSem.ClaimMapViews
import Derived.JoinedTies
import Derived.KernelRfl
namespace Go.Proofs.Qxb6618037a
/- THE CELL 'sum', in the pinned program and in every row, IS THE sha256 OF THE DUMP (.gsa) THAT Qxb6618037aProg.lean LOADS. Nothing in Lean hashes anything: it is a label: what it is worth is what the hold of that sum in a sandbox is worth. -/
noncomputable def Try.pinned : Pinned := { name := "qxb6618037a", sum := "699f2692d91d8afa00c3beb7383e12eea82ea93e1263ea38fa1112f722e1cbb2", checked := Try.checked }
namespace Rows
def none {H : Type} : Left H := { results := [], args := [] }

/-- 'zzlaws_pkg_gateway_b1.FnAddReadsLineInAnyPieces': WHATEVER THE INPUT: true; the input reads as it did. -/
def fnAddReadsLineInAnyPiecesSpec : ChangeSpec := { name := "fnAddReadsLineInAnyPieces", fn := fun _ => fun
  | [d1, d2, d3] => { results := [.lit (.bool true)], args := [d1, d2, d3] }
  | _ => none }
def fnAddReadsLineInAnyPiecesRow : OpenClaim := { program := "qxb6618037a", sum := "699f2692d91d8afa00c3beb7383e12eea82ea93e1263ea38fa1112f722e1cbb2", func := "example.com/precedence/precedence/zzlaws_pkg_gateway_b1.FnAddReadsLineInAnyPieces", spec := "fnAddReadsLineInAnyPieces", inPlace := ["internal/bytealg.IndexByte", "internal/bytealg.Index"], named := ["internal/bytealg.MaxLen"], apart := false }
def FnAddReadsLineInAnyPiecesSaid : Prop := fnAddReadsLineInAnyPiecesRow.holds Try.pinned (OpenSpec.ofChange fnAddReadsLineInAnyPiecesSpec)

/-- ITS FALSE NEIGHBOUR: 'it returns false'. Refute it at one input. -/
def fnAddReadsLineInAnyPiecesWrong : ChangeSpec := { name := "fnAddReadsLineInAnyPieces", fn := fun _ => fun
  | [d1, d2, d3] => { results := [.lit (.bool false)], args := [d1, d2, d3] }
  | _ => none }
def FnAddReadsLineInAnyPiecesWrongFalsely : Prop := fnAddReadsLineInAnyPiecesRow.holds Try.pinned (OpenSpec.ofChange fnAddReadsLineInAnyPiecesWrong)

/-- 'zzlaws_pkg_gateway_b1.FnAddNameSplitEqualsWhole': WHATEVER THE INPUT: true; the input reads as it did. -/
def fnAddNameSplitEqualsWholeSpec : ChangeSpec := { name := "fnAddNameSplitEqualsWhole", fn := fun _ => fun
  | [d1, d2, d3, d4, d5, d6, d7, d8] => { results := [.lit (.bool true)], args := [d1, d2, d3, d4, d5, d6, d7, d8] }
  | _ => none }
def fnAddNameSplitEqualsWholeRow : OpenClaim := { program := "qxb6618037a", sum := "699f2692d91d8afa00c3beb7383e12eea82ea93e1263ea38fa1112f722e1cbb2", func := "example.com/precedence/precedence/zzlaws_pkg_gateway_b1.FnAddNameSplitEqualsWhole", spec := "fnAddNameSplitEqualsWhole", apart := false }
def FnAddNameSplitEqualsWholeSaid : Prop := fnAddNameSplitEqualsWholeRow.holds Try.pinned (OpenSpec.ofChange fnAddNameSplitEqualsWholeSpec)

/-- ITS FALSE NEIGHBOUR: 'it returns false'. Refute it at one input. -/
def fnAddNameSplitEqualsWholeWrong : ChangeSpec := { name := "fnAddNameSplitEqualsWhole", fn := fun _ => fun
  | [d1, d2, d3, d4, d5, d6, d7, d8] => { results := [.lit (.bool false)], args := [d1, d2, d3, d4, d5, d6, d7, d8] }
  | _ => none }
def FnAddNameSplitEqualsWholeWrongFalsely : Prop := fnAddNameSplitEqualsWholeRow.holds Try.pinned (OpenSpec.ofChange fnAddNameSplitEqualsWholeWrong)

end Rows
end Go.Proofs.Qxb6618037a
