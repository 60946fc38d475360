/-
  No cell of these rows narrows 'for every input' (looked for: loops, veiled, ifaces, maps, wideKeys, modest, calm, conditions, laid).
  DERIVED. THE GIVEN ROWS OF THIS SEAT. 2 by the template 'for every input the law returns true; each argument reads behind the call as it read before'; 0 by the template 'total and deterministic' (their statements: Qxb6619383aTotals.lean).
  GIVEN WITH THE SEED: the statements are not yours to turn. If you find one false, say at which input.
  Laid BY PROGRAM, IN A SANDBOX (cutbox-rows.mjs): the forced cells as the released guide's own fill.sh prints them over the translation 1c8353ee1e27d5a8… (all of the seat's roots in one cut). By AI agents, Wed Nov 11 2026. No macro, syntax, notation, axiom, sorry.
-/
import Derived.Test.Qxb6619383aChecked
import GoSem.Claim
import GoSem.ClaimJoined
import GoSem.ClaimMapViews
import Derived.JoinedTies
import Derived.KernelRfl
namespace Go.Proofs.Qxb6619383a
/- THE CELL 'sum', in the pinned program and in every row, IS THE sha256 OF THE DUMP (.gsa) THAT Qxb6619383aProg.lean LOADS. Nothing in Lean hashes anything: it is a label: what it is worth is what the hold of that sum in a sandbox is worth. -/
noncomputable def Try.pinned : Pinned := { name := "qxb6619383a", sum := "1c8353ee1e27d5a86bdf0c3ae08abbf1f370cebe1a6aa9c0332b16d1cc35098f", checked := Try.checked }
namespace Rows
def none {H : Type} : Left H := { results := [], args := [] }

/-- 'zzlaws_config_b1.FnProblemStringTellsProblemsApart': WHATEVER THE INPUT: true; the input reads as it did. -/
def fnProblemStringTellsProblemsApartSpec : ChangeSpec := { name := "fnProblemStringTellsProblemsApart", fn := fun _ => fun
  | [d1, d2, d3, d4, d5, d6] => { results := [.lit (.bool true)], args := [d1, d2, d3, d4, d5, d6] }
  | _ => none }
def fnProblemStringTellsProblemsApartRow : OpenClaim := { program := "qxb6619383a", sum := "1c8353ee1e27d5a86bdf0c3ae08abbf1f370cebe1a6aa9c0332b16d1cc35098f", func := "example.com/strict-gate/strict-gate/zzlaws_config_b1.FnProblemStringTellsProblemsApart", spec := "fnProblemStringTellsProblemsApart", apart := false }
def FnProblemStringTellsProblemsApartSaid : Prop := fnProblemStringTellsProblemsApartRow.holds Try.pinned (OpenSpec.ofChange fnProblemStringTellsProblemsApartSpec)

/-- ITS FALSE NEIGHBOUR: 'it returns false'. Refute it at one input. -/
def fnProblemStringTellsProblemsApartWrong : ChangeSpec := { name := "fnProblemStringTellsProblemsApart", fn := fun _ => fun
  | [d1, d2, d3, d4, d5, d6] => { results := [.lit (.bool false)], args := [d1, d2, d3, d4, d5, d6] }
  | _ => none }
def FnProblemStringTellsProblemsApartWrongFalsely : Prop := fnProblemStringTellsProblemsApartRow.holds Try.pinned (OpenSpec.ofChange fnProblemStringTellsProblemsApartWrong)

/-- 'zzlaws_config_b1.FnClaimsMatchExactlyTheTokensThatCarryThem': WHATEVER THE INPUT: true; the input reads as it did. -/
def fnClaimsMatchExactlyTheTokensThatCarryThemSpec : ChangeSpec := { name := "fnClaimsMatchExactlyTheTokensThatCarryThem", fn := fun _ => fun
  | [d1, d2, d3, d4] => { results := [.lit (.bool true)], args := [d1, d2, d3, d4] }
  | _ => none }
def fnClaimsMatchExactlyTheTokensThatCarryThemRow : OpenClaim := { program := "qxb6619383a", sum := "1c8353ee1e27d5a86bdf0c3ae08abbf1f370cebe1a6aa9c0332b16d1cc35098f", func := "example.com/strict-gate/strict-gate/zzlaws_config_b1.FnClaimsMatchExactlyTheTokensThatCarryThem", spec := "fnClaimsMatchExactlyTheTokensThatCarryThem", apart := false }
def FnClaimsMatchExactlyTheTokensThatCarryThemSaid : Prop := fnClaimsMatchExactlyTheTokensThatCarryThemRow.holds Try.pinned (OpenSpec.ofChange fnClaimsMatchExactlyTheTokensThatCarryThemSpec)

/-- ITS FALSE NEIGHBOUR: 'it returns false'. Refute it at one input. -/
def fnClaimsMatchExactlyTheTokensThatCarryThemWrong : ChangeSpec := { name := "fnClaimsMatchExactlyTheTokensThatCarryThem", fn := fun _ => fun
  | [d1, d2, d3, d4] => { results := [.lit (.bool false)], args := [d1, d2, d3, d4] }
  | _ => none }
def FnClaimsMatchExactlyTheTokensThatCarryThemWrongFalsely : Prop := fnClaimsMatchExactlyTheTokensThatCarryThemRow.holds Try.pinned (OpenSpec.ofChange fnClaimsMatchExactlyTheTokensThatCarryThemWrong)

end Rows
end Go.Proofs.Qxb6619383a
