/-
  No cell of these rows narrows 'for every input' (looked for: loops, veiled, ifaces, maps, wideKeys, modest, calm, conditions, laid).
  DERIVED. THE GIVEN ROWS OF THIS SEAT. 4 by the template 'for every input the law returns true; each argument reads behind the call as it read before'; 0 by the template 'total and deterministic' (their statements: Qxb6003691aTotals.lean).
  GIVEN WITH THE SEED: the statements are not yours to turn. If you find one false, say at which input.
  Laid BY PROGRAM, IN A SANDBOX (cutbox-rows.mjs): the forced cells as the released guide's own fill.sh prints them over the translation 1917495c21b262c9… (all of the seat's roots in one cut). By AI agents, Wed Nov 11 2026. No macro, syntax, notation, axiom, sorry.
-/
import Derived.Test.Qxb6003691aChecked
import GoSem.Claim
import GoSem.ClaimJoined
import GoSem.ClaimMapViews
import Derived.JoinedTies
import Derived.KernelRfl
namespace Go.Proofs.Qxb6003691a
/- THE CELL 'sum', in the pinned program and in every row, IS THE sha256 OF THE DUMP (.gsa) THAT Qxb6003691aProg.lean LOADS. Nothing in Lean hashes anything: it is a label: what it is worth is what the hold of that sum in a sandbox is worth. -/
noncomputable def Try.pinned : Pinned := { name := "qxb6003691a", sum := "1917495c21b262c98600c0862226f0bd151296bfffc2e2bbeec6403f0ffde4df", checked := Try.checked }
namespace Rows
def none {H : Type} : Left H := { results := [], args := [] }

/-- 'zzlaws_bandwidth_g1.FnQueueDrainsInTakeOrder': WHATEVER THE INPUT: true; the input reads as it did. -/
def fnQueueDrainsInTakeOrderSpec : ChangeSpec := { name := "fnQueueDrainsInTakeOrder", fn := fun _ => fun
  | [d1, d2] => { results := [.lit (.bool true)], args := [d1, d2] }
  | _ => none }
def fnQueueDrainsInTakeOrderRow : OpenClaim := { program := "qxb6003691a", sum := "1917495c21b262c98600c0862226f0bd151296bfffc2e2bbeec6403f0ffde4df", func := "example.com/shardwire/shardwire/zzlaws_bandwidth_g1.FnQueueDrainsInTakeOrder", spec := "fnQueueDrainsInTakeOrder", apart := false }
def FnQueueDrainsInTakeOrderSaid : Prop := fnQueueDrainsInTakeOrderRow.holds Try.pinned (OpenSpec.ofChange fnQueueDrainsInTakeOrderSpec)

/-- ITS FALSE NEIGHBOUR: 'it returns false'. Refute it at one input. -/
def fnQueueDrainsInTakeOrderWrong : ChangeSpec := { name := "fnQueueDrainsInTakeOrder", fn := fun _ => fun
  | [d1, d2] => { results := [.lit (.bool false)], args := [d1, d2] }
  | _ => none }
def FnQueueDrainsInTakeOrderWrongFalsely : Prop := fnQueueDrainsInTakeOrderRow.holds Try.pinned (OpenSpec.ofChange fnQueueDrainsInTakeOrderWrong)

/-- 'zzlaws_bandwidth_g1.FnQueueRootChangesKeepOrder': WHATEVER THE INPUT: true; the input reads as it did. -/
def fnQueueRootChangesKeepOrderSpec : ChangeSpec := { name := "fnQueueRootChangesKeepOrder", fn := fun _ => fun
  | [d1, d2, d3, d4] => { results := [.lit (.bool true)], args := [d1, d2, d3, d4] }
  | _ => none }
def fnQueueRootChangesKeepOrderRow : OpenClaim := { program := "qxb6003691a", sum := "1917495c21b262c98600c0862226f0bd151296bfffc2e2bbeec6403f0ffde4df", func := "example.com/shardwire/shardwire/zzlaws_bandwidth_g1.FnQueueRootChangesKeepOrder", spec := "fnQueueRootChangesKeepOrder", apart := false }
def FnQueueRootChangesKeepOrderSaid : Prop := fnQueueRootChangesKeepOrderRow.holds Try.pinned (OpenSpec.ofChange fnQueueRootChangesKeepOrderSpec)

/-- ITS FALSE NEIGHBOUR: 'it returns false'. Refute it at one input. -/
def fnQueueRootChangesKeepOrderWrong : ChangeSpec := { name := "fnQueueRootChangesKeepOrder", fn := fun _ => fun
  | [d1, d2, d3, d4] => { results := [.lit (.bool false)], args := [d1, d2, d3, d4] }
  | _ => none }
def FnQueueRootChangesKeepOrderWrongFalsely : Prop := fnQueueRootChangesKeepOrderRow.holds Try.pinned (OpenSpec.ofChange fnQueueRootChangesKeepOrderWrong)

/-- 'zzlaws_bandwidth_g1.FnNewRoundStartsFreshAndUnaliased': WHATEVER THE INPUT: true; the input reads as it did. -/
def fnNewRoundStartsFreshAndUnaliasedSpec : ChangeSpec := { name := "fnNewRoundStartsFreshAndUnaliased", fn := fun _ => fun
  | [d1, d2, d3, d4, d5, d6, d7] => { results := [.lit (.bool true)], args := [d1, d2, d3, d4, d5, d6, d7] }
  | _ => none }
def fnNewRoundStartsFreshAndUnaliasedRow : OpenClaim := { program := "qxb6003691a", sum := "1917495c21b262c98600c0862226f0bd151296bfffc2e2bbeec6403f0ffde4df", func := "example.com/shardwire/shardwire/zzlaws_bandwidth_g1.FnNewRoundStartsFreshAndUnaliased", spec := "fnNewRoundStartsFreshAndUnaliased", apart := false }
def FnNewRoundStartsFreshAndUnaliasedSaid : Prop := fnNewRoundStartsFreshAndUnaliasedRow.holds Try.pinned (OpenSpec.ofChange fnNewRoundStartsFreshAndUnaliasedSpec)

/-- ITS FALSE NEIGHBOUR: 'it returns false'. Refute it at one input. -/
def fnNewRoundStartsFreshAndUnaliasedWrong : ChangeSpec := { name := "fnNewRoundStartsFreshAndUnaliased", fn := fun _ => fun
  | [d1, d2, d3, d4, d5, d6, d7] => { results := [.lit (.bool false)], args := [d1, d2, d3, d4, d5, d6, d7] }
  | _ => none }
def FnNewRoundStartsFreshAndUnaliasedWrongFalsely : Prop := fnNewRoundStartsFreshAndUnaliasedRow.holds Try.pinned (OpenSpec.ofChange fnNewRoundStartsFreshAndUnaliasedWrong)

/-- 'zzlaws_bandwidth_g2.FnDropFirstTakesEntriesInOrder': WHATEVER THE INPUT: true; the input reads as it did. -/
def fnDropFirstTakesEntriesInOrderSpec : ChangeSpec := { name := "fnDropFirstTakesEntriesInOrder", fn := fun _ => fun
  | [d1, d2] => { results := [.lit (.bool true)], args := [d1, d2] }
  | _ => none }
def fnDropFirstTakesEntriesInOrderRow : OpenClaim := { program := "qxb6003691a", sum := "1917495c21b262c98600c0862226f0bd151296bfffc2e2bbeec6403f0ffde4df", func := "example.com/shardwire/shardwire/zzlaws_bandwidth_g2.FnDropFirstTakesEntriesInOrder", spec := "fnDropFirstTakesEntriesInOrder", apart := false }
def FnDropFirstTakesEntriesInOrderSaid : Prop := fnDropFirstTakesEntriesInOrderRow.holds Try.pinned (OpenSpec.ofChange fnDropFirstTakesEntriesInOrderSpec)

/-- ITS FALSE NEIGHBOUR: 'it returns false'. Refute it at one input. -/
def fnDropFirstTakesEntriesInOrderWrong : ChangeSpec := { name := "fnDropFirstTakesEntriesInOrder", fn := fun _ => fun
  | [d1, d2] => { results := [.lit (.bool false)], args := [d1, d2] }
  | _ => none }
def FnDropFirstTakesEntriesInOrderWrongFalsely : Prop := fnDropFirstTakesEntriesInOrderRow.holds Try.pinned (OpenSpec.ofChange fnDropFirstTakesEntriesInOrderWrong)

end Rows
end Go.Proofs.Qxb6003691a
