/-
  No cell of these rows narrows 'for every input' (looked for: loops, veiled, ifaces, maps, wideKeys, modest, calm, conditions, laid).
  DERIVED. THE GIVEN ROWS OF THIS SEAT. 4 by the template 'for every input the law returns true; each argument reads behind the call as it read before'; 0 by the template 'total and deterministic' (their statements: Qxb6600644aTotals.lean).
  GIVEN WITH THE SEED: the statements are not yours to turn. If you find one false, say at which input.
  Laid BY PROGRAM, IN A SANDBOX (cutbox-rows.mjs): the forced cells as the released guide's own fill.sh prints them over the translation 1265c6e6f82507e6… (all of the seat's roots in one cut). By AI agents, Wed Nov 11 2026. No macro, syntax, notation, axiom, sorry.
-/
import Derived.Test.Qxb6600644aChecked
import GoSem.Claim
import GoSem.ClaimJoined
import GoSem.ClaimMapViews
import Derived.JoinedTies
import Derived.KernelRfl
namespace Go.Proofs.Qxb6600644a
/- THE CELL 'sum', in the pinned program and in every row, IS THE sha256 OF THE DUMP (.gsa) THAT Qxb6600644aProg.lean LOADS. Nothing in Lean hashes anything: it is a label: what it is worth is what the hold of that sum in a sandbox is worth. -/
noncomputable def Try.pinned : Pinned := { name := "qxb6600644a", sum := "1265c6e6f82507e62c974c9c9234bff10b142b15fe8a56a236727b53c964bd14", checked := Try.checked }
namespace Rows
def none {H : Type} : Left H := { results := [], args := [] }

/-- 'zzlaws_syntax_b1.FnPrecedenceLadder': WHATEVER THE INPUT: true; the input reads as it did. -/
def fnPrecedenceLadderSpec : ChangeSpec := { name := "fnPrecedenceLadder", fn := fun _ => fun
  | [d] => { results := [.lit (.bool true)], args := [d] }
  | _ => none }
def fnPrecedenceLadderRow : OpenClaim := { program := "qxb6600644a", sum := "1265c6e6f82507e62c974c9c9234bff10b142b15fe8a56a236727b53c964bd14", func := "example.com/strake/strake/zzlaws_syntax_b1.FnPrecedenceLadder", spec := "fnPrecedenceLadder", apart := false }
def FnPrecedenceLadderSaid : Prop := fnPrecedenceLadderRow.holds Try.pinned (OpenSpec.ofChange fnPrecedenceLadderSpec)

/-- ITS FALSE NEIGHBOUR: 'it returns false'. Refute it at one input. -/
def fnPrecedenceLadderWrong : ChangeSpec := { name := "fnPrecedenceLadder", fn := fun _ => fun
  | [d] => { results := [.lit (.bool false)], args := [d] }
  | _ => none }
def FnPrecedenceLadderWrongFalsely : Prop := fnPrecedenceLadderRow.holds Try.pinned (OpenSpec.ofChange fnPrecedenceLadderWrong)

/-- 'zzlaws_syntax_b1.FnValueKindStripsInterfaceSuffix': WHATEVER THE INPUT: true; the input reads as it did. -/
def fnValueKindStripsInterfaceSuffixSpec : ChangeSpec := { name := "fnValueKindStripsInterfaceSuffix", fn := fun _ => fun
  | [d] => { results := [.lit (.bool true)], args := [d] }
  | _ => none }
def fnValueKindStripsInterfaceSuffixRow : OpenClaim := { program := "qxb6600644a", sum := "1265c6e6f82507e62c974c9c9234bff10b142b15fe8a56a236727b53c964bd14", func := "example.com/strake/strake/zzlaws_syntax_b1.FnValueKindStripsInterfaceSuffix", spec := "fnValueKindStripsInterfaceSuffix", apart := false }
def FnValueKindStripsInterfaceSuffixSaid : Prop := fnValueKindStripsInterfaceSuffixRow.holds Try.pinned (OpenSpec.ofChange fnValueKindStripsInterfaceSuffixSpec)

/-- ITS FALSE NEIGHBOUR: 'it returns false'. Refute it at one input. -/
def fnValueKindStripsInterfaceSuffixWrong : ChangeSpec := { name := "fnValueKindStripsInterfaceSuffix", fn := fun _ => fun
  | [d] => { results := [.lit (.bool false)], args := [d] }
  | _ => none }
def FnValueKindStripsInterfaceSuffixWrongFalsely : Prop := fnValueKindStripsInterfaceSuffixRow.holds Try.pinned (OpenSpec.ofChange fnValueKindStripsInterfaceSuffixWrong)

/-- 'zzlaws_syntax_b1.FnValueKindIdempotent': WHATEVER THE INPUT: true; the input reads as it did. -/
def fnValueKindIdempotentSpec : ChangeSpec := { name := "fnValueKindIdempotent", fn := fun _ => fun
  | [d] => { results := [.lit (.bool true)], args := [d] }
  | _ => none }
def fnValueKindIdempotentRow : OpenClaim := { program := "qxb6600644a", sum := "1265c6e6f82507e62c974c9c9234bff10b142b15fe8a56a236727b53c964bd14", func := "example.com/strake/strake/zzlaws_syntax_b1.FnValueKindIdempotent", spec := "fnValueKindIdempotent", apart := false }
def FnValueKindIdempotentSaid : Prop := fnValueKindIdempotentRow.holds Try.pinned (OpenSpec.ofChange fnValueKindIdempotentSpec)

/-- ITS FALSE NEIGHBOUR: 'it returns false'. Refute it at one input. -/
def fnValueKindIdempotentWrong : ChangeSpec := { name := "fnValueKindIdempotent", fn := fun _ => fun
  | [d] => { results := [.lit (.bool false)], args := [d] }
  | _ => none }
def FnValueKindIdempotentWrongFalsely : Prop := fnValueKindIdempotentRow.holds Try.pinned (OpenSpec.ofChange fnValueKindIdempotentWrong)

/-- 'zzlaws_syntax_b1.FnValueKindNeverInterface': WHATEVER THE INPUT: true; the input reads as it did. -/
def fnValueKindNeverInterfaceSpec : ChangeSpec := { name := "fnValueKindNeverInterface", fn := fun _ => fun
  | [d] => { results := [.lit (.bool true)], args := [d] }
  | _ => none }
def fnValueKindNeverInterfaceRow : OpenClaim := { program := "qxb6600644a", sum := "1265c6e6f82507e62c974c9c9234bff10b142b15fe8a56a236727b53c964bd14", func := "example.com/strake/strake/zzlaws_syntax_b1.FnValueKindNeverInterface", spec := "fnValueKindNeverInterface", apart := false }
def FnValueKindNeverInterfaceSaid : Prop := fnValueKindNeverInterfaceRow.holds Try.pinned (OpenSpec.ofChange fnValueKindNeverInterfaceSpec)

/-- ITS FALSE NEIGHBOUR: 'it returns false'. Refute it at one input. -/
def fnValueKindNeverInterfaceWrong : ChangeSpec := { name := "fnValueKindNeverInterface", fn := fun _ => fun
  | [d] => { results := [.lit (.bool false)], args := [d] }
  | _ => none }
def FnValueKindNeverInterfaceWrongFalsely : Prop := fnValueKindNeverInterfaceRow.holds Try.pinned (OpenSpec.ofChange fnValueKindNeverInterfaceWrong)

end Rows
end Go.Proofs.Qxb6600644a
