/-
  No cell of these rows narrows 'for every input' (looked for: loops, veiled, ifaces, maps, wideKeys, modest, calm, conditions, laid).
  DERIVED. THE GIVEN ROWS OF THIS SEAT. 2 by the template 'for every input the law returns true; each argument reads behind the call as it read before'; 0 by the template 'total and deterministic' (their statements: Qxb6619363aTotals.lean).
  GIVEN WITH THE SEED: the statements are not yours to turn. If you find one false, say at which input.
  Laid BY PROGRAM, IN A SANDBOX (cutbox-rows.mjs): the forced cells as the released guide's own fill.sh prints them over the translation c407086e3dd1192c… (all of the seat's roots in one cut). By AI agents, Wed Nov 11 2026. No macro, syntax, notation, axiom, sorry.
-/
import Derived.Test.Qxb6619363aChecked
import GoSem.Claim
import GoSem.ClaimJoined
import GoSem.ClaimMapViews
import Derived.JoinedTies
import Derived.KernelRfl
namespace Go.Proofs.Qxb6619363a
/- THE CELL 'sum', in the pinned program and in every row, IS THE sha256 OF THE DUMP (.gsa) THAT Qxb6619363aProg.lean LOADS. Nothing in Lean hashes anything: it is a label: what it is worth is what the hold of that sum in a sandbox is worth. -/
noncomputable def Try.pinned : Pinned := { name := "qxb6619363a", sum := "c407086e3dd1192c6a3347de336a26b5564f4f9b1b70cafd84e865999fee309b", checked := Try.checked }
namespace Rows
def none {H : Type} : Left H := { results := [], args := [] }

/-- 'zzlaws_cron_b1.FnWithinIsNearestAllowedMinute': WHATEVER THE INPUT: true; the input reads as it did. -/
def fnWithinIsNearestAllowedMinuteSpec : ChangeSpec := { name := "fnWithinIsNearestAllowedMinute", fn := fun _ => fun
  | [d1, d2, d3, d4, d5] => { results := [.lit (.bool true)], args := [d1, d2, d3, d4, d5] }
  | _ => none }
def fnWithinIsNearestAllowedMinuteRow : OpenClaim := { program := "qxb6619363a", sum := "c407086e3dd1192c6a3347de336a26b5564f4f9b1b70cafd84e865999fee309b", func := "example.com/ready-to-result/ready-to-result/zzlaws_cron_b1.FnWithinIsNearestAllowedMinute", spec := "fnWithinIsNearestAllowedMinute", apart := false }
def FnWithinIsNearestAllowedMinuteSaid : Prop := fnWithinIsNearestAllowedMinuteRow.holds Try.pinned (OpenSpec.ofChange fnWithinIsNearestAllowedMinuteSpec)

/-- ITS FALSE NEIGHBOUR: 'it returns false'. Refute it at one input. -/
def fnWithinIsNearestAllowedMinuteWrong : ChangeSpec := { name := "fnWithinIsNearestAllowedMinute", fn := fun _ => fun
  | [d1, d2, d3, d4, d5] => { results := [.lit (.bool false)], args := [d1, d2, d3, d4, d5] }
  | _ => none }
def FnWithinIsNearestAllowedMinuteWrongFalsely : Prop := fnWithinIsNearestAllowedMinuteRow.holds Try.pinned (OpenSpec.ofChange fnWithinIsNearestAllowedMinuteWrong)

/-- 'zzlaws_cron_b1.FnWithinSteppingVisitsEveryAllowedMinuteOnce': WHATEVER THE INPUT: true; the input reads as it did. -/
def fnWithinSteppingVisitsEveryAllowedMinuteOnceSpec : ChangeSpec := { name := "fnWithinSteppingVisitsEveryAllowedMinuteOnce", fn := fun _ => fun
  | [d1, d2, d3, d4, d5] => { results := [.lit (.bool true)], args := [d1, d2, d3, d4, d5] }
  | _ => none }
def fnWithinSteppingVisitsEveryAllowedMinuteOnceRow : OpenClaim := { program := "qxb6619363a", sum := "c407086e3dd1192c6a3347de336a26b5564f4f9b1b70cafd84e865999fee309b", func := "example.com/ready-to-result/ready-to-result/zzlaws_cron_b1.FnWithinSteppingVisitsEveryAllowedMinuteOnce", spec := "fnWithinSteppingVisitsEveryAllowedMinuteOnce", apart := false }
def FnWithinSteppingVisitsEveryAllowedMinuteOnceSaid : Prop := fnWithinSteppingVisitsEveryAllowedMinuteOnceRow.holds Try.pinned (OpenSpec.ofChange fnWithinSteppingVisitsEveryAllowedMinuteOnceSpec)

/-- ITS FALSE NEIGHBOUR: 'it returns false'. Refute it at one input. -/
def fnWithinSteppingVisitsEveryAllowedMinuteOnceWrong : ChangeSpec := { name := "fnWithinSteppingVisitsEveryAllowedMinuteOnce", fn := fun _ => fun
  | [d1, d2, d3, d4, d5] => { results := [.lit (.bool false)], args := [d1, d2, d3, d4, d5] }
  | _ => none }
def FnWithinSteppingVisitsEveryAllowedMinuteOnceWrongFalsely : Prop := fnWithinSteppingVisitsEveryAllowedMinuteOnceRow.holds Try.pinned (OpenSpec.ofChange fnWithinSteppingVisitsEveryAllowedMinuteOnceWrong)

end Rows
end Go.Proofs.Qxb6619363a
