/-
  No cell of these rows narrows 'for every input' (looked for: loops, veiled, ifaces, maps, wideKeys, modest, calm, conditions, laid).
  DERIVED. THE GIVEN ROWS OF THIS SEAT. 4 by the template 'for every input the law returns true; each argument reads behind the call as it read before'; 0 by the template 'total and deterministic' (their statements: Qxb6003704aTotals.lean).
  GIVEN WITH THE SEED: the statements are not yours to turn. If you find one false, say at which input.
  Laid BY PROGRAM, IN A SANDBOX (cutbox-rows.mjs): the forced cells as the released guide's own fill.sh prints them over the translation 0734f85a4c92823a… (all of the seat's roots in one cut). By AI agents, Wed Nov 11 2026. No macro, syntax, notation, axiom, sorry.
-/
import Derived.Test.Qxb6003704aChecked
import GoSem.Claim
import GoSem.ClaimJoined
import GoSem.ClaimMapViews
import Derived.JoinedTies
import Derived.KernelRfl
namespace Go.Proofs.Qxb6003704a
/- THE CELL 'sum', in the pinned program and in every row, IS THE sha256 OF THE DUMP (.gsa) THAT Qxb6003704aProg.lean LOADS. Nothing in Lean hashes anything: it is a label: what it is worth is what the hold of that sum in a sandbox is worth. -/
noncomputable def Try.pinned : Pinned := { name := "qxb6003704a", sum := "0734f85a4c92823a322a64d98f15850f2d9049466e2b8fb308a92389fdd94765", checked := Try.checked }
namespace Rows
def none {H : Type} : Left H := { results := [], args := [] }

/-- 'zzlaws_pkg_dict_g1.FnTakeInvertsPrepend': WHATEVER THE INPUT: true; the input reads as it did. -/
def fnTakeInvertsPrependSpec : ChangeSpec := { name := "fnTakeInvertsPrepend", fn := fun _ => fun
  | [d1, d2] => { results := [.lit (.bool true)], args := [d1, d2] }
  | _ => none }
def fnTakeInvertsPrependRow : OpenClaim := { program := "qxb6003704a", sum := "0734f85a4c92823a322a64d98f15850f2d9049466e2b8fb308a92389fdd94765", func := "example.com/acheron/acheron/zzlaws_pkg_dict_g1.FnTakeInvertsPrepend", spec := "fnTakeInvertsPrepend", apart := false }
def FnTakeInvertsPrependSaid : Prop := fnTakeInvertsPrependRow.holds Try.pinned (OpenSpec.ofChange fnTakeInvertsPrependSpec)

/-- ITS FALSE NEIGHBOUR: 'it returns false'. Refute it at one input. -/
def fnTakeInvertsPrependWrong : ChangeSpec := { name := "fnTakeInvertsPrepend", fn := fun _ => fun
  | [d1, d2] => { results := [.lit (.bool false)], args := [d1, d2] }
  | _ => none }
def FnTakeInvertsPrependWrongFalsely : Prop := fnTakeInvertsPrependRow.holds Try.pinned (OpenSpec.ofChange fnTakeInvertsPrependWrong)

/-- 'zzlaws_pkg_dict_g1.FnTakeLoopAgreesWithSkipBlanks': WHATEVER THE INPUT: true; the input reads as it did. -/
def fnTakeLoopAgreesWithSkipBlanksSpec : ChangeSpec := { name := "fnTakeLoopAgreesWithSkipBlanks", fn := fun _ => fun
  | [d] => { results := [.lit (.bool true)], args := [d] }
  | _ => none }
def fnTakeLoopAgreesWithSkipBlanksRow : OpenClaim := { program := "qxb6003704a", sum := "0734f85a4c92823a322a64d98f15850f2d9049466e2b8fb308a92389fdd94765", func := "example.com/acheron/acheron/zzlaws_pkg_dict_g1.FnTakeLoopAgreesWithSkipBlanks", spec := "fnTakeLoopAgreesWithSkipBlanks", apart := false }
def FnTakeLoopAgreesWithSkipBlanksSaid : Prop := fnTakeLoopAgreesWithSkipBlanksRow.holds Try.pinned (OpenSpec.ofChange fnTakeLoopAgreesWithSkipBlanksSpec)

/-- ITS FALSE NEIGHBOUR: 'it returns false'. Refute it at one input. -/
def fnTakeLoopAgreesWithSkipBlanksWrong : ChangeSpec := { name := "fnTakeLoopAgreesWithSkipBlanks", fn := fun _ => fun
  | [d] => { results := [.lit (.bool false)], args := [d] }
  | _ => none }
def FnTakeLoopAgreesWithSkipBlanksWrongFalsely : Prop := fnTakeLoopAgreesWithSkipBlanksRow.holds Try.pinned (OpenSpec.ofChange fnTakeLoopAgreesWithSkipBlanksWrong)

/-- 'zzlaws_pkg_namespace_g1.FnJoinTwoStepsIsOneStep': WHATEVER THE INPUT: true; the input reads as it did. -/
def fnJoinTwoStepsIsOneStepSpec : ChangeSpec := { name := "fnJoinTwoStepsIsOneStep", fn := fun _ => fun
  | [d1, d2, d3] => { results := [.lit (.bool true)], args := [d1, d2, d3] }
  | _ => none }
def fnJoinTwoStepsIsOneStepRow : OpenClaim := { program := "qxb6003704a", sum := "0734f85a4c92823a322a64d98f15850f2d9049466e2b8fb308a92389fdd94765", func := "example.com/acheron/acheron/zzlaws_pkg_namespace_g1.FnJoinTwoStepsIsOneStep", spec := "fnJoinTwoStepsIsOneStep", inPlace := ["internal/abi.NoEscape", "internal/bytealg.MakeNoZero"], apart := false }
def FnJoinTwoStepsIsOneStepSaid : Prop := fnJoinTwoStepsIsOneStepRow.holds Try.pinned (OpenSpec.ofChange fnJoinTwoStepsIsOneStepSpec)

/-- ITS FALSE NEIGHBOUR: 'it returns false'. Refute it at one input. -/
def fnJoinTwoStepsIsOneStepWrong : ChangeSpec := { name := "fnJoinTwoStepsIsOneStep", fn := fun _ => fun
  | [d1, d2, d3] => { results := [.lit (.bool false)], args := [d1, d2, d3] }
  | _ => none }
def FnJoinTwoStepsIsOneStepWrongFalsely : Prop := fnJoinTwoStepsIsOneStepRow.holds Try.pinned (OpenSpec.ofChange fnJoinTwoStepsIsOneStepWrong)

/-- 'zzlaws_pkg_namespace_g1.FnJoinTrailingSlashOfDirIgnored': WHATEVER THE INPUT: true; the input reads as it did. -/
def fnJoinTrailingSlashOfDirIgnoredSpec : ChangeSpec := { name := "fnJoinTrailingSlashOfDirIgnored", fn := fun _ => fun
  | [d1, d2] => { results := [.lit (.bool true)], args := [d1, d2] }
  | _ => none }
def fnJoinTrailingSlashOfDirIgnoredRow : OpenClaim := { program := "qxb6003704a", sum := "0734f85a4c92823a322a64d98f15850f2d9049466e2b8fb308a92389fdd94765", func := "example.com/acheron/acheron/zzlaws_pkg_namespace_g1.FnJoinTrailingSlashOfDirIgnored", spec := "fnJoinTrailingSlashOfDirIgnored", inPlace := ["internal/abi.NoEscape", "internal/bytealg.MakeNoZero"], apart := false }
def FnJoinTrailingSlashOfDirIgnoredSaid : Prop := fnJoinTrailingSlashOfDirIgnoredRow.holds Try.pinned (OpenSpec.ofChange fnJoinTrailingSlashOfDirIgnoredSpec)

/-- ITS FALSE NEIGHBOUR: 'it returns false'. Refute it at one input. -/
def fnJoinTrailingSlashOfDirIgnoredWrong : ChangeSpec := { name := "fnJoinTrailingSlashOfDirIgnored", fn := fun _ => fun
  | [d1, d2] => { results := [.lit (.bool false)], args := [d1, d2] }
  | _ => none }
def FnJoinTrailingSlashOfDirIgnoredWrongFalsely : Prop := fnJoinTrailingSlashOfDirIgnoredRow.holds Try.pinned (OpenSpec.ofChange fnJoinTrailingSlashOfDirIgnoredWrong)

end Rows
end Go.Proofs.Qxb6003704a
