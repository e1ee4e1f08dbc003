/-
  No cell of these rows narrows 'for every input' (looked for: loops, veiled, ifaces, maps, wideKeys, modest, calm, conditions, laid).
  DERIVED. THE GIVEN ROWS OF THIS SEAT. 4 by the template 'for every input the law returns true; each argument reads behind the call as it read before'; 0 by the template 'total and deterministic' (their statements: Qxb6003705aTotals.lean).
  GIVEN WITH THE SEED: the statements are not yours to turn. If you find one false, say at which input.
  Laid BY PROGRAM, IN A SANDBOX (cutbox-rows.mjs): the forced cells as the released guide's own fill.sh prints them over the translation 66ed12dd99e4eb46… (all of the seat's roots in one cut). By AI agents, Wed Nov 11 2026. No macro, syntax, notation, axiom, sorry.
-/
import Derived.Test.Qxb6003705aChecked
import GoSem.Claim
import GoSem.ClaimJoined
import GoSem.ClaimMapViews
import Derived.JoinedTies
import Derived.KernelRfl
namespace Go.Proofs.Qxb6003705a
/- THE CELL 'sum', in the pinned program and in every row, IS THE sha256 OF THE DUMP (.gsa) THAT Qxb6003705aProg.lean LOADS. Nothing in Lean hashes anything: it is a label: what it is worth is what the hold of that sum in a sandbox is worth. -/
noncomputable def Try.pinned : Pinned := { name := "qxb6003705a", sum := "66ed12dd99e4eb46d8c9fb9ec5331ad9cbd0a9735ac960f8b3d5369c6ecb7a52", checked := Try.checked }
namespace Rows
def none {H : Type} : Left H := { results := [], args := [] }

/-- 'zzlaws_pkg_namespace_g1.FnJoinSplitsBack': WHATEVER THE INPUT: true; the input reads as it did. -/
def fnJoinSplitsBackSpec : ChangeSpec := { name := "fnJoinSplitsBack", fn := fun _ => fun
  | [d1, d2] => { results := [.lit (.bool true)], args := [d1, d2] }
  | _ => none }
def fnJoinSplitsBackRow : OpenClaim := { program := "qxb6003705a", sum := "66ed12dd99e4eb46d8c9fb9ec5331ad9cbd0a9735ac960f8b3d5369c6ecb7a52", func := "example.com/acheron/acheron/zzlaws_pkg_namespace_g1.FnJoinSplitsBack", spec := "fnJoinSplitsBack", inPlace := ["internal/abi.NoEscape", "internal/bytealg.MakeNoZero"], apart := false }
def FnJoinSplitsBackSaid : Prop := fnJoinSplitsBackRow.holds Try.pinned (OpenSpec.ofChange fnJoinSplitsBackSpec)

/-- ITS FALSE NEIGHBOUR: 'it returns false'. Refute it at one input. -/
def fnJoinSplitsBackWrong : ChangeSpec := { name := "fnJoinSplitsBack", fn := fun _ => fun
  | [d1, d2] => { results := [.lit (.bool false)], args := [d1, d2] }
  | _ => none }
def FnJoinSplitsBackWrongFalsely : Prop := fnJoinSplitsBackRow.holds Try.pinned (OpenSpec.ofChange fnJoinSplitsBackWrong)

/-- 'zzlaws_pkg_ninep_g1.FnOpenFlagsHangOnlyOnAccessAndTrunc': WHATEVER THE INPUT: true; the input reads as it did. -/
def fnOpenFlagsHangOnlyOnAccessAndTruncSpec : ChangeSpec := { name := "fnOpenFlagsHangOnlyOnAccessAndTrunc", fn := fun _ => fun
  | [d] => { results := [.lit (.bool true)], args := [d] }
  | _ => none }
def fnOpenFlagsHangOnlyOnAccessAndTruncRow : OpenClaim := { program := "qxb6003705a", sum := "66ed12dd99e4eb46d8c9fb9ec5331ad9cbd0a9735ac960f8b3d5369c6ecb7a52", func := "example.com/acheron/acheron/zzlaws_pkg_ninep_g1.FnOpenFlagsHangOnlyOnAccessAndTrunc", spec := "fnOpenFlagsHangOnlyOnAccessAndTrunc", apart := false }
def FnOpenFlagsHangOnlyOnAccessAndTruncSaid : Prop := fnOpenFlagsHangOnlyOnAccessAndTruncRow.holds Try.pinned (OpenSpec.ofChange fnOpenFlagsHangOnlyOnAccessAndTruncSpec)

/-- ITS FALSE NEIGHBOUR: 'it returns false'. Refute it at one input. -/
def fnOpenFlagsHangOnlyOnAccessAndTruncWrong : ChangeSpec := { name := "fnOpenFlagsHangOnlyOnAccessAndTrunc", fn := fun _ => fun
  | [d] => { results := [.lit (.bool false)], args := [d] }
  | _ => none }
def FnOpenFlagsHangOnlyOnAccessAndTruncWrongFalsely : Prop := fnOpenFlagsHangOnlyOnAccessAndTruncRow.holds Try.pinned (OpenSpec.ofChange fnOpenFlagsHangOnlyOnAccessAndTruncWrong)

/-- 'zzlaws_pkg_ninep_g1.FnOpenFlagsTruncAddsExactlyTrunc': WHATEVER THE INPUT: true; the input reads as it did. -/
def fnOpenFlagsTruncAddsExactlyTruncSpec : ChangeSpec := { name := "fnOpenFlagsTruncAddsExactlyTrunc", fn := fun _ => fun
  | [d] => { results := [.lit (.bool true)], args := [d] }
  | _ => none }
def fnOpenFlagsTruncAddsExactlyTruncRow : OpenClaim := { program := "qxb6003705a", sum := "66ed12dd99e4eb46d8c9fb9ec5331ad9cbd0a9735ac960f8b3d5369c6ecb7a52", func := "example.com/acheron/acheron/zzlaws_pkg_ninep_g1.FnOpenFlagsTruncAddsExactlyTrunc", spec := "fnOpenFlagsTruncAddsExactlyTrunc", apart := false }
def FnOpenFlagsTruncAddsExactlyTruncSaid : Prop := fnOpenFlagsTruncAddsExactlyTruncRow.holds Try.pinned (OpenSpec.ofChange fnOpenFlagsTruncAddsExactlyTruncSpec)

/-- ITS FALSE NEIGHBOUR: 'it returns false'. Refute it at one input. -/
def fnOpenFlagsTruncAddsExactlyTruncWrong : ChangeSpec := { name := "fnOpenFlagsTruncAddsExactlyTrunc", fn := fun _ => fun
  | [d] => { results := [.lit (.bool false)], args := [d] }
  | _ => none }
def FnOpenFlagsTruncAddsExactlyTruncWrongFalsely : Prop := fnOpenFlagsTruncAddsExactlyTruncRow.holds Try.pinned (OpenSpec.ofChange fnOpenFlagsTruncAddsExactlyTruncWrong)

/-- 'zzlaws_pkg_ninep_g1.FnOpenFlagsTellsRequestsApart': WHATEVER THE INPUT: true; the input reads as it did. -/
def fnOpenFlagsTellsRequestsApartSpec : ChangeSpec := { name := "fnOpenFlagsTellsRequestsApart", fn := fun _ => fun
  | [d1, d2] => { results := [.lit (.bool true)], args := [d1, d2] }
  | _ => none }
def fnOpenFlagsTellsRequestsApartRow : OpenClaim := { program := "qxb6003705a", sum := "66ed12dd99e4eb46d8c9fb9ec5331ad9cbd0a9735ac960f8b3d5369c6ecb7a52", func := "example.com/acheron/acheron/zzlaws_pkg_ninep_g1.FnOpenFlagsTellsRequestsApart", spec := "fnOpenFlagsTellsRequestsApart", apart := false }
def FnOpenFlagsTellsRequestsApartSaid : Prop := fnOpenFlagsTellsRequestsApartRow.holds Try.pinned (OpenSpec.ofChange fnOpenFlagsTellsRequestsApartSpec)

/-- ITS FALSE NEIGHBOUR: 'it returns false'. Refute it at one input. -/
def fnOpenFlagsTellsRequestsApartWrong : ChangeSpec := { name := "fnOpenFlagsTellsRequestsApart", fn := fun _ => fun
  | [d1, d2] => { results := [.lit (.bool false)], args := [d1, d2] }
  | _ => none }
def FnOpenFlagsTellsRequestsApartWrongFalsely : Prop := fnOpenFlagsTellsRequestsApartRow.holds Try.pinned (OpenSpec.ofChange fnOpenFlagsTellsRequestsApartWrong)

end Rows
end Go.Proofs.Qxb6003705a
