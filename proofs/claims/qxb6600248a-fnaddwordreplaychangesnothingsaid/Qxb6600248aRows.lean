/-
  No cell of these rows narrows 'for every input' (looked for: loops, veiled, ifaces, maps, wideKeys, modest, calm, conditions, laid).
  DERIVED. THE GIVEN ROWS OF THIS SEAT. 5 by the template 'for every input the law returns true; each argument reads behind the call as it read before'; 0 by the template 'total and deterministic' (their statements: Qxb6600248aTotals.lean).
  GIVEN WITH THE SEED: the statements are not yours to turn. If you find one false, say at which input.
  Laid BY PROGRAM, IN A SANDBOX (cutbox-rows.mjs): the forced cells as the released guide's own fill.sh prints them over the translation aa75307688c60760… (all of the seat's roots in one cut). By AI agents, Wed Nov 11 2026. No macro, syntax, notation, axiom, sorry.
-/
import Derived.Test.Qxb6600248aChecked
import GoSem.Claim
import GoSem.ClaimJoined
import GoSem.ClaimMapViews
import Derived.JoinedTies
import Derived.KernelRfl
namespace Go.Proofs.Qxb6600248a
/- THE CELL 'sum', in the pinned program and in every row, IS THE sha256 OF THE DUMP (.gsa) THAT Qxb6600248aProg.lean LOADS. Nothing in Lean hashes anything: it is a label: what it is worth is what the hold of that sum in a sandbox is worth. -/
noncomputable def Try.pinned : Pinned := { name := "qxb6600248a", sum := "aa75307688c60760ff4a86338a0e53a4972349f116d2ac3d8c6bbd8ea4108cce", checked := Try.checked }
namespace Rows
def none {H : Type} : Left H := { results := [], args := [] }

/-- 'zzlaws_match_b1.FnNextAgreesWithLinearScan': WHATEVER THE INPUT: true; the input reads as it did. -/
def fnNextAgreesWithLinearScanSpec : ChangeSpec := { name := "fnNextAgreesWithLinearScan", fn := fun _ => fun
  | [d1, d2, d3, d4] => { results := [.lit (.bool true)], args := [d1, d2, d3, d4] }
  | _ => none }
def fnNextAgreesWithLinearScanRow : OpenClaim := { program := "qxb6600248a", sum := "aa75307688c60760ff4a86338a0e53a4972349f116d2ac3d8c6bbd8ea4108cce", func := "example.com/lexwarden/lexwarden/zzlaws_match_b1.FnNextAgreesWithLinearScan", spec := "fnNextAgreesWithLinearScan", apart := false }
def FnNextAgreesWithLinearScanSaid : Prop := fnNextAgreesWithLinearScanRow.holds Try.pinned (OpenSpec.ofChange fnNextAgreesWithLinearScanSpec)

/-- ITS FALSE NEIGHBOUR: 'it returns false'. Refute it at one input. -/
def fnNextAgreesWithLinearScanWrong : ChangeSpec := { name := "fnNextAgreesWithLinearScan", fn := fun _ => fun
  | [d1, d2, d3, d4] => { results := [.lit (.bool false)], args := [d1, d2, d3, d4] }
  | _ => none }
def FnNextAgreesWithLinearScanWrongFalsely : Prop := fnNextAgreesWithLinearScanRow.holds Try.pinned (OpenSpec.ofChange fnNextAgreesWithLinearScanWrong)

/-- 'zzlaws_match_b1.FnLinkSuffixesMatchesBruteForce': WHATEVER THE INPUT: true; the input reads as it did. -/
def fnLinkSuffixesMatchesBruteForceSpec : ChangeSpec := { name := "fnLinkSuffixesMatchesBruteForce", fn := fun _ => fun
  | [d] => { results := [.lit (.bool true)], args := [d] }
  | _ => none }
def fnLinkSuffixesMatchesBruteForceRow : OpenClaim := { program := "qxb6600248a", sum := "aa75307688c60760ff4a86338a0e53a4972349f116d2ac3d8c6bbd8ea4108cce", func := "example.com/lexwarden/lexwarden/zzlaws_match_b1.FnLinkSuffixesMatchesBruteForce", spec := "fnLinkSuffixesMatchesBruteForce", apart := false }
def FnLinkSuffixesMatchesBruteForceSaid : Prop := fnLinkSuffixesMatchesBruteForceRow.holds Try.pinned (OpenSpec.ofChange fnLinkSuffixesMatchesBruteForceSpec)

/-- ITS FALSE NEIGHBOUR: 'it returns false'. Refute it at one input. -/
def fnLinkSuffixesMatchesBruteForceWrong : ChangeSpec := { name := "fnLinkSuffixesMatchesBruteForce", fn := fun _ => fun
  | [d] => { results := [.lit (.bool false)], args := [d] }
  | _ => none }
def FnLinkSuffixesMatchesBruteForceWrongFalsely : Prop := fnLinkSuffixesMatchesBruteForceRow.holds Try.pinned (OpenSpec.ofChange fnLinkSuffixesMatchesBruteForceWrong)

/-- 'zzlaws_match_b1.FnAutomatonReportsEveryWordEndingHere': WHATEVER THE INPUT: true; the input reads as it did. -/
def fnAutomatonReportsEveryWordEndingHereSpec : ChangeSpec := { name := "fnAutomatonReportsEveryWordEndingHere", fn := fun _ => fun
  | [d1, d2] => { results := [.lit (.bool true)], args := [d1, d2] }
  | _ => none }
def fnAutomatonReportsEveryWordEndingHereRow : OpenClaim := { program := "qxb6600248a", sum := "aa75307688c60760ff4a86338a0e53a4972349f116d2ac3d8c6bbd8ea4108cce", func := "example.com/lexwarden/lexwarden/zzlaws_match_b1.FnAutomatonReportsEveryWordEndingHere", spec := "fnAutomatonReportsEveryWordEndingHere", apart := false }
def FnAutomatonReportsEveryWordEndingHereSaid : Prop := fnAutomatonReportsEveryWordEndingHereRow.holds Try.pinned (OpenSpec.ofChange fnAutomatonReportsEveryWordEndingHereSpec)

/-- ITS FALSE NEIGHBOUR: 'it returns false'. Refute it at one input. -/
def fnAutomatonReportsEveryWordEndingHereWrong : ChangeSpec := { name := "fnAutomatonReportsEveryWordEndingHere", fn := fun _ => fun
  | [d1, d2] => { results := [.lit (.bool false)], args := [d1, d2] }
  | _ => none }
def FnAutomatonReportsEveryWordEndingHereWrongFalsely : Prop := fnAutomatonReportsEveryWordEndingHereRow.holds Try.pinned (OpenSpec.ofChange fnAutomatonReportsEveryWordEndingHereWrong)

/-- 'zzlaws_match_b1.FnAddWordScriptMatchesModel': WHATEVER THE INPUT: true; the input reads as it did. -/
def fnAddWordScriptMatchesModelSpec : ChangeSpec := { name := "fnAddWordScriptMatchesModel", fn := fun _ => fun
  | [d1, d2, d3, d4] => { results := [.lit (.bool true)], args := [d1, d2, d3, d4] }
  | _ => none }
def fnAddWordScriptMatchesModelRow : OpenClaim := { program := "qxb6600248a", sum := "aa75307688c60760ff4a86338a0e53a4972349f116d2ac3d8c6bbd8ea4108cce", func := "example.com/lexwarden/lexwarden/zzlaws_match_b1.FnAddWordScriptMatchesModel", spec := "fnAddWordScriptMatchesModel", apart := false }
def FnAddWordScriptMatchesModelSaid : Prop := fnAddWordScriptMatchesModelRow.holds Try.pinned (OpenSpec.ofChange fnAddWordScriptMatchesModelSpec)

/-- ITS FALSE NEIGHBOUR: 'it returns false'. Refute it at one input. -/
def fnAddWordScriptMatchesModelWrong : ChangeSpec := { name := "fnAddWordScriptMatchesModel", fn := fun _ => fun
  | [d1, d2, d3, d4] => { results := [.lit (.bool false)], args := [d1, d2, d3, d4] }
  | _ => none }
def FnAddWordScriptMatchesModelWrongFalsely : Prop := fnAddWordScriptMatchesModelRow.holds Try.pinned (OpenSpec.ofChange fnAddWordScriptMatchesModelWrong)

/-- 'zzlaws_match_b1.FnAddWordReplayChangesNothing': WHATEVER THE INPUT: true; the input reads as it did. -/
def fnAddWordReplayChangesNothingSpec : ChangeSpec := { name := "fnAddWordReplayChangesNothing", fn := fun _ => fun
  | [d1, d2, d3, d4] => { results := [.lit (.bool true)], args := [d1, d2, d3, d4] }
  | _ => none }
def fnAddWordReplayChangesNothingRow : OpenClaim := { program := "qxb6600248a", sum := "aa75307688c60760ff4a86338a0e53a4972349f116d2ac3d8c6bbd8ea4108cce", func := "example.com/lexwarden/lexwarden/zzlaws_match_b1.FnAddWordReplayChangesNothing", spec := "fnAddWordReplayChangesNothing", apart := false }
def FnAddWordReplayChangesNothingSaid : Prop := fnAddWordReplayChangesNothingRow.holds Try.pinned (OpenSpec.ofChange fnAddWordReplayChangesNothingSpec)

/-- ITS FALSE NEIGHBOUR: 'it returns false'. Refute it at one input. -/
def fnAddWordReplayChangesNothingWrong : ChangeSpec := { name := "fnAddWordReplayChangesNothing", fn := fun _ => fun
  | [d1, d2, d3, d4] => { results := [.lit (.bool false)], args := [d1, d2, d3, d4] }
  | _ => none }
def FnAddWordReplayChangesNothingWrongFalsely : Prop := fnAddWordReplayChangesNothingRow.holds Try.pinned (OpenSpec.ofChange fnAddWordReplayChangesNothingWrong)

end Rows
end Go.Proofs.Qxb6600248a
