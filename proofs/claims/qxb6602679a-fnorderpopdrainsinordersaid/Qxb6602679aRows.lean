/-
  No cell of these rows narrows 'for every input' (looked for: loops, veiled, ifaces, maps, wideKeys, modest, calm, conditions, laid).
  DERIVED. THE GIVEN ROWS OF THIS SEAT. 6 by the template 'for every input the law returns true; each argument reads behind the call as it read before'; 0 by the template 'total and deterministic' (their statements: Qxb6602679aTotals.lean).
  GIVEN WITH THE SEED: the statements are not yours to turn. If you find one false, say at which input.
  Laid BY PROGRAM, IN A SANDBOX (cutbox-rows.mjs): the forced cells as the released guide's own fill.sh prints them over the translation 46a06dcd0890074e… (all of the seat's roots in one cut). By AI agents, Wed Nov 11 2026. No macro, syntax, notation, axiom, sorry.
-/
import Derived.Test.Qxb6602679aChecked
import GoSem.Claim
import GoSem.ClaimJoined
import GoSem.ClaimMapViews
import Derived.JoinedTies
import Derived.KernelRfl
namespace Go.Proofs.Qxb6602679a
/- THE CELL 'sum', in the pinned program and in every row, IS THE sha256 OF THE DUMP (.gsa) THAT Qxb6602679aProg.lean LOADS. Nothing in Lean hashes anything: it is a label: what it is worth is what the hold of that sum in a sandbox is worth. -/
noncomputable def Try.pinned : Pinned := { name := "qxb6602679a", sum := "46a06dcd0890074e3c6e585fe19821352a663c01a06f75fe4b965fb5d2a95bd6", checked := Try.checked }
namespace Rows
def none {H : Type} : Left H := { results := [], args := [] }

/-- 'zzlaws_internal_sat_b1.FnMedianOfSelectsMiddle': WHATEVER THE INPUT: true; the input reads as it did. -/
def fnMedianOfSelectsMiddleSpec : ChangeSpec := { name := "fnMedianOfSelectsMiddle", fn := fun _ => fun
  | [d] => { results := [.lit (.bool true)], args := [d] }
  | _ => none }
def fnMedianOfSelectsMiddleRow : OpenClaim := { program := "qxb6602679a", sum := "46a06dcd0890074e3c6e585fe19821352a663c01a06f75fe4b965fb5d2a95bd6", func := "example.com/policy-conflict-check/policy-conflict-check/zzlaws_internal_sat_b1.FnMedianOfSelectsMiddle", spec := "fnMedianOfSelectsMiddle", apart := false }
def FnMedianOfSelectsMiddleSaid : Prop := fnMedianOfSelectsMiddleRow.holds Try.pinned (OpenSpec.ofChange fnMedianOfSelectsMiddleSpec)

/-- ITS FALSE NEIGHBOUR: 'it returns false'. Refute it at one input. -/
def fnMedianOfSelectsMiddleWrong : ChangeSpec := { name := "fnMedianOfSelectsMiddle", fn := fun _ => fun
  | [d] => { results := [.lit (.bool false)], args := [d] }
  | _ => none }
def FnMedianOfSelectsMiddleWrongFalsely : Prop := fnMedianOfSelectsMiddleRow.holds Try.pinned (OpenSpec.ofChange fnMedianOfSelectsMiddleWrong)

/-- 'zzlaws_internal_sat_b1.FnMedianOfMonotone': WHATEVER THE INPUT: true; the input reads as it did. -/
def fnMedianOfMonotoneSpec : ChangeSpec := { name := "fnMedianOfMonotone", fn := fun _ => fun
  | [d1, d2] => { results := [.lit (.bool true)], args := [d1, d2] }
  | _ => none }
def fnMedianOfMonotoneRow : OpenClaim := { program := "qxb6602679a", sum := "46a06dcd0890074e3c6e585fe19821352a663c01a06f75fe4b965fb5d2a95bd6", func := "example.com/policy-conflict-check/policy-conflict-check/zzlaws_internal_sat_b1.FnMedianOfMonotone", spec := "fnMedianOfMonotone", apart := false }
def FnMedianOfMonotoneSaid : Prop := fnMedianOfMonotoneRow.holds Try.pinned (OpenSpec.ofChange fnMedianOfMonotoneSpec)

/-- ITS FALSE NEIGHBOUR: 'it returns false'. Refute it at one input. -/
def fnMedianOfMonotoneWrong : ChangeSpec := { name := "fnMedianOfMonotone", fn := fun _ => fun
  | [d1, d2] => { results := [.lit (.bool false)], args := [d1, d2] }
  | _ => none }
def FnMedianOfMonotoneWrongFalsely : Prop := fnMedianOfMonotoneRow.holds Try.pinned (OpenSpec.ofChange fnMedianOfMonotoneWrong)

/-- 'zzlaws_internal_sat_b1.FnOrderDownSiftsSubtree': WHATEVER THE INPUT: true; the input reads as it did. -/
def fnOrderDownSiftsSubtreeSpec : ChangeSpec := { name := "fnOrderDownSiftsSubtree", fn := fun _ => fun
  | [d1, d2, d3, d4] => { results := [.lit (.bool true)], args := [d1, d2, d3, d4] }
  | _ => none }
def fnOrderDownSiftsSubtreeRow : OpenClaim := { program := "qxb6602679a", sum := "46a06dcd0890074e3c6e585fe19821352a663c01a06f75fe4b965fb5d2a95bd6", func := "example.com/policy-conflict-check/policy-conflict-check/zzlaws_internal_sat_b1.FnOrderDownSiftsSubtree", spec := "fnOrderDownSiftsSubtree", apart := false }
def FnOrderDownSiftsSubtreeSaid : Prop := fnOrderDownSiftsSubtreeRow.holds Try.pinned (OpenSpec.ofChange fnOrderDownSiftsSubtreeSpec)

/-- ITS FALSE NEIGHBOUR: 'it returns false'. Refute it at one input. -/
def fnOrderDownSiftsSubtreeWrong : ChangeSpec := { name := "fnOrderDownSiftsSubtree", fn := fun _ => fun
  | [d1, d2, d3, d4] => { results := [.lit (.bool false)], args := [d1, d2, d3, d4] }
  | _ => none }
def FnOrderDownSiftsSubtreeWrongFalsely : Prop := fnOrderDownSiftsSubtreeRow.holds Try.pinned (OpenSpec.ofChange fnOrderDownSiftsSubtreeWrong)

/-- 'zzlaws_internal_sat_b1.FnOrderDownLeavesOrderedAlone': WHATEVER THE INPUT: true; the input reads as it did. -/
def fnOrderDownLeavesOrderedAloneSpec : ChangeSpec := { name := "fnOrderDownLeavesOrderedAlone", fn := fun _ => fun
  | [d1, d2, d3, d4] => { results := [.lit (.bool true)], args := [d1, d2, d3, d4] }
  | _ => none }
def fnOrderDownLeavesOrderedAloneRow : OpenClaim := { program := "qxb6602679a", sum := "46a06dcd0890074e3c6e585fe19821352a663c01a06f75fe4b965fb5d2a95bd6", func := "example.com/policy-conflict-check/policy-conflict-check/zzlaws_internal_sat_b1.FnOrderDownLeavesOrderedAlone", spec := "fnOrderDownLeavesOrderedAlone", apart := false }
def FnOrderDownLeavesOrderedAloneSaid : Prop := fnOrderDownLeavesOrderedAloneRow.holds Try.pinned (OpenSpec.ofChange fnOrderDownLeavesOrderedAloneSpec)

/-- ITS FALSE NEIGHBOUR: 'it returns false'. Refute it at one input. -/
def fnOrderDownLeavesOrderedAloneWrong : ChangeSpec := { name := "fnOrderDownLeavesOrderedAlone", fn := fun _ => fun
  | [d1, d2, d3, d4] => { results := [.lit (.bool false)], args := [d1, d2, d3, d4] }
  | _ => none }
def FnOrderDownLeavesOrderedAloneWrongFalsely : Prop := fnOrderDownLeavesOrderedAloneRow.holds Try.pinned (OpenSpec.ofChange fnOrderDownLeavesOrderedAloneWrong)

/-- 'zzlaws_internal_sat_b1.FnOrderPopTakesMostActive': WHATEVER THE INPUT: true; the input reads as it did. -/
def fnOrderPopTakesMostActiveSpec : ChangeSpec := { name := "fnOrderPopTakesMostActive", fn := fun _ => fun
  | [d1, d2, d3] => { results := [.lit (.bool true)], args := [d1, d2, d3] }
  | _ => none }
def fnOrderPopTakesMostActiveRow : OpenClaim := { program := "qxb6602679a", sum := "46a06dcd0890074e3c6e585fe19821352a663c01a06f75fe4b965fb5d2a95bd6", func := "example.com/policy-conflict-check/policy-conflict-check/zzlaws_internal_sat_b1.FnOrderPopTakesMostActive", spec := "fnOrderPopTakesMostActive", apart := false }
def FnOrderPopTakesMostActiveSaid : Prop := fnOrderPopTakesMostActiveRow.holds Try.pinned (OpenSpec.ofChange fnOrderPopTakesMostActiveSpec)

/-- ITS FALSE NEIGHBOUR: 'it returns false'. Refute it at one input. -/
def fnOrderPopTakesMostActiveWrong : ChangeSpec := { name := "fnOrderPopTakesMostActive", fn := fun _ => fun
  | [d1, d2, d3] => { results := [.lit (.bool false)], args := [d1, d2, d3] }
  | _ => none }
def FnOrderPopTakesMostActiveWrongFalsely : Prop := fnOrderPopTakesMostActiveRow.holds Try.pinned (OpenSpec.ofChange fnOrderPopTakesMostActiveWrong)

/-- 'zzlaws_internal_sat_b1.FnOrderPopDrainsInOrder': WHATEVER THE INPUT: true; the input reads as it did. -/
def fnOrderPopDrainsInOrderSpec : ChangeSpec := { name := "fnOrderPopDrainsInOrder", fn := fun _ => fun
  | [d1, d2, d3] => { results := [.lit (.bool true)], args := [d1, d2, d3] }
  | _ => none }
def fnOrderPopDrainsInOrderRow : OpenClaim := { program := "qxb6602679a", sum := "46a06dcd0890074e3c6e585fe19821352a663c01a06f75fe4b965fb5d2a95bd6", func := "example.com/policy-conflict-check/policy-conflict-check/zzlaws_internal_sat_b1.FnOrderPopDrainsInOrder", spec := "fnOrderPopDrainsInOrder", apart := false }
def FnOrderPopDrainsInOrderSaid : Prop := fnOrderPopDrainsInOrderRow.holds Try.pinned (OpenSpec.ofChange fnOrderPopDrainsInOrderSpec)

/-- ITS FALSE NEIGHBOUR: 'it returns false'. Refute it at one input. -/
def fnOrderPopDrainsInOrderWrong : ChangeSpec := { name := "fnOrderPopDrainsInOrder", fn := fun _ => fun
  | [d1, d2, d3] => { results := [.lit (.bool false)], args := [d1, d2, d3] }
  | _ => none }
def FnOrderPopDrainsInOrderWrongFalsely : Prop := fnOrderPopDrainsInOrderRow.holds Try.pinned (OpenSpec.ofChange fnOrderPopDrainsInOrderWrong)

end Rows
end Go.Proofs.Qxb6602679a
