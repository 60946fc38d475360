/-
  No cell of these rows narrows 'for every input' (looked for: loops, veiled, ifaces, maps, wideKeys, modest, calm, conditions, laid).
  DERIVED. THE GIVEN ROWS OF THIS SEAT. 4 by the template 'for every input the law returns true; each argument reads behind the call as it read before'; 0 by the template 'total and deterministic' (their statements: Qxb6618109aTotals.lean).
  GIVEN WITH THE SEED: the statements are not yours to turn. If you find one false, say at which input.
  Laid BY PROGRAM, IN A SANDBOX (cutbox-rows.mjs): the forced cells as the released guide's own fill.sh prints them over the translation f94ec902e5afa29c… (all of the seat's roots in one cut). By AI agents, Wed Nov 11 2026. No macro, syntax, notation, axiom, sorry.
-/
import Derived.Test.Qxb6618109aChecked
import GoSem.Claim
import GoSem.ClaimJoined
import GoSem.ClaimMapViews
import Derived.JoinedTies
import Derived.KernelRfl
namespace Go.Proofs.Qxb6618109a
/- THE CELL 'sum', in the pinned program and in every row, IS THE sha256 OF THE DUMP (.gsa) THAT Qxb6618109aProg.lean LOADS. Nothing in Lean hashes anything: it is a label: what it is worth is what the hold of that sum in a sandbox is worth. -/
noncomputable def Try.pinned : Pinned := { name := "qxb6618109a", sum := "f94ec902e5afa29c40ac29da921f771a03baf88ebc622bf325360023301a2778", checked := Try.checked }
namespace Rows
def none {H : Type} : Left H := { results := [], args := [] }

/-- 'zzlaws_internal_yamldoc_b1.FnDropRepeatsKeepsEachFirstOccurrenceOnce': WHATEVER THE INPUT: true; the input reads as it did. -/
def fnDropRepeatsKeepsEachFirstOccurrenceOnceSpec : ChangeSpec := { name := "fnDropRepeatsKeepsEachFirstOccurrenceOnce", fn := fun _ => fun
  | [d1, d2] => { results := [.lit (.bool true)], args := [d1, d2] }
  | _ => none }
def fnDropRepeatsKeepsEachFirstOccurrenceOnceRow : OpenClaim := { program := "qxb6618109a", sum := "f94ec902e5afa29c40ac29da921f771a03baf88ebc622bf325360023301a2778", func := "example.com/eddyline/eddyline/zzlaws_internal_yamldoc_b1.FnDropRepeatsKeepsEachFirstOccurrenceOnce", spec := "fnDropRepeatsKeepsEachFirstOccurrenceOnce", plainKeys := false, apart := false }
def FnDropRepeatsKeepsEachFirstOccurrenceOnceSaid : Prop := fnDropRepeatsKeepsEachFirstOccurrenceOnceRow.holds Try.pinned (OpenSpec.ofChange fnDropRepeatsKeepsEachFirstOccurrenceOnceSpec)

/-- ITS FALSE NEIGHBOUR: 'it returns false'. Refute it at one input. -/
def fnDropRepeatsKeepsEachFirstOccurrenceOnceWrong : ChangeSpec := { name := "fnDropRepeatsKeepsEachFirstOccurrenceOnce", fn := fun _ => fun
  | [d1, d2] => { results := [.lit (.bool false)], args := [d1, d2] }
  | _ => none }
def FnDropRepeatsKeepsEachFirstOccurrenceOnceWrongFalsely : Prop := fnDropRepeatsKeepsEachFirstOccurrenceOnceRow.holds Try.pinned (OpenSpec.ofChange fnDropRepeatsKeepsEachFirstOccurrenceOnceWrong)

/-- 'zzlaws_internal_yamldoc_b1.FnDropRepeatsAgreesAtAnyCutAndPastItsPrefix': WHATEVER THE INPUT: true; the input reads as it did. -/
def fnDropRepeatsAgreesAtAnyCutAndPastItsPrefixSpec : ChangeSpec := { name := "fnDropRepeatsAgreesAtAnyCutAndPastItsPrefix", fn := fun _ => fun
  | [d1, d2, d3] => { results := [.lit (.bool true)], args := [d1, d2, d3] }
  | _ => none }
def fnDropRepeatsAgreesAtAnyCutAndPastItsPrefixRow : OpenClaim := { program := "qxb6618109a", sum := "f94ec902e5afa29c40ac29da921f771a03baf88ebc622bf325360023301a2778", func := "example.com/eddyline/eddyline/zzlaws_internal_yamldoc_b1.FnDropRepeatsAgreesAtAnyCutAndPastItsPrefix", spec := "fnDropRepeatsAgreesAtAnyCutAndPastItsPrefix", plainKeys := false, apart := false }
def FnDropRepeatsAgreesAtAnyCutAndPastItsPrefixSaid : Prop := fnDropRepeatsAgreesAtAnyCutAndPastItsPrefixRow.holds Try.pinned (OpenSpec.ofChange fnDropRepeatsAgreesAtAnyCutAndPastItsPrefixSpec)

/-- ITS FALSE NEIGHBOUR: 'it returns false'. Refute it at one input. -/
def fnDropRepeatsAgreesAtAnyCutAndPastItsPrefixWrong : ChangeSpec := { name := "fnDropRepeatsAgreesAtAnyCutAndPastItsPrefix", fn := fun _ => fun
  | [d1, d2, d3] => { results := [.lit (.bool false)], args := [d1, d2, d3] }
  | _ => none }
def FnDropRepeatsAgreesAtAnyCutAndPastItsPrefixWrongFalsely : Prop := fnDropRepeatsAgreesAtAnyCutAndPastItsPrefixRow.holds Try.pinned (OpenSpec.ofChange fnDropRepeatsAgreesAtAnyCutAndPastItsPrefixWrong)

/-- 'zzlaws_internal_yamldoc_b1.FnAliasLineAgreesWithItsPartsAtAnyCut': WHATEVER THE INPUT: true; the input reads as it did. -/
def fnAliasLineAgreesWithItsPartsAtAnyCutSpec : ChangeSpec := { name := "fnAliasLineAgreesWithItsPartsAtAnyCut", fn := fun _ => fun
  | [d1, d2, d3] => { results := [.lit (.bool true)], args := [d1, d2, d3] }
  | _ => none }
def fnAliasLineAgreesWithItsPartsAtAnyCutRow : OpenClaim := { program := "qxb6618109a", sum := "f94ec902e5afa29c40ac29da921f771a03baf88ebc622bf325360023301a2778", func := "example.com/eddyline/eddyline/zzlaws_internal_yamldoc_b1.FnAliasLineAgreesWithItsPartsAtAnyCut", spec := "fnAliasLineAgreesWithItsPartsAtAnyCut", inPlace := ["internal/bytealg.IndexByte", "internal/bytealg.Index", "internal/bytealg.Count"], named := ["internal/bytealg.MaxLen"], plainKeys := false, apart := false }
def FnAliasLineAgreesWithItsPartsAtAnyCutSaid : Prop := fnAliasLineAgreesWithItsPartsAtAnyCutRow.holds Try.pinned (OpenSpec.ofChange fnAliasLineAgreesWithItsPartsAtAnyCutSpec)

/-- ITS FALSE NEIGHBOUR: 'it returns false'. Refute it at one input. -/
def fnAliasLineAgreesWithItsPartsAtAnyCutWrong : ChangeSpec := { name := "fnAliasLineAgreesWithItsPartsAtAnyCut", fn := fun _ => fun
  | [d1, d2, d3] => { results := [.lit (.bool false)], args := [d1, d2, d3] }
  | _ => none }
def FnAliasLineAgreesWithItsPartsAtAnyCutWrongFalsely : Prop := fnAliasLineAgreesWithItsPartsAtAnyCutRow.holds Try.pinned (OpenSpec.ofChange fnAliasLineAgreesWithItsPartsAtAnyCutWrong)

/-- 'zzlaws_internal_yamldoc_b1.FnAliasLineShiftsByPrependedNewlines': WHATEVER THE INPUT: true; the input reads as it did. -/
def fnAliasLineShiftsByPrependedNewlinesSpec : ChangeSpec := { name := "fnAliasLineShiftsByPrependedNewlines", fn := fun _ => fun
  | [d1, d2, d3] => { results := [.lit (.bool true)], args := [d1, d2, d3] }
  | _ => none }
def fnAliasLineShiftsByPrependedNewlinesRow : OpenClaim := { program := "qxb6618109a", sum := "f94ec902e5afa29c40ac29da921f771a03baf88ebc622bf325360023301a2778", func := "example.com/eddyline/eddyline/zzlaws_internal_yamldoc_b1.FnAliasLineShiftsByPrependedNewlines", spec := "fnAliasLineShiftsByPrependedNewlines", inPlace := ["internal/bytealg.IndexByte", "internal/bytealg.Index", "internal/bytealg.Count"], named := ["internal/bytealg.MaxLen"], plainKeys := false, apart := false }
def FnAliasLineShiftsByPrependedNewlinesSaid : Prop := fnAliasLineShiftsByPrependedNewlinesRow.holds Try.pinned (OpenSpec.ofChange fnAliasLineShiftsByPrependedNewlinesSpec)

/-- ITS FALSE NEIGHBOUR: 'it returns false'. Refute it at one input. -/
def fnAliasLineShiftsByPrependedNewlinesWrong : ChangeSpec := { name := "fnAliasLineShiftsByPrependedNewlines", fn := fun _ => fun
  | [d1, d2, d3] => { results := [.lit (.bool false)], args := [d1, d2, d3] }
  | _ => none }
def FnAliasLineShiftsByPrependedNewlinesWrongFalsely : Prop := fnAliasLineShiftsByPrependedNewlinesRow.holds Try.pinned (OpenSpec.ofChange fnAliasLineShiftsByPrependedNewlinesWrong)

end Rows
end Go.Proofs.Qxb6618109a
