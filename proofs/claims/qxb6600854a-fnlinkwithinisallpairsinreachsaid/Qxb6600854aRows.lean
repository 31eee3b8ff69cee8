/-
  No cell of these rows narrows 'for every input' (looked for: loops, veiled, ifaces, maps, wideKeys, modest, calm, conditions, laid).
  DERIVED. THE GIVEN ROWS OF THIS SEAT. 6 by the template 'for every input the law returns true; each argument reads behind the call as it read before'; 0 by the template 'total and deterministic' (their statements: Qxb6600854aTotals.lean).
  GIVEN WITH THE SEED: the statements are not yours to turn. If you find one false, say at which input.
  Laid BY PROGRAM, IN A SANDBOX (cutbox-rows.mjs): the forced cells as the released guide's own fill.sh prints them over the translation d9feb6b5253ba944… (all of the seat's roots in one cut). By AI agents, Wed Nov 11 2026. No macro, syntax, notation, axiom, sorry.
-/
import Derived.Test.Qxb6600854aChecked
import GoSem.Claim
import GoSem.ClaimJoined
import GoSem.ClaimMapViews
import Derived.JoinedTies
import Derived.KernelRfl
namespace Go.Proofs.Qxb6600854a
/- THE CELL 'sum', in the pinned program and in every row, IS THE sha256 OF THE DUMP (.gsa) THAT Qxb6600854aProg.lean LOADS. Nothing in Lean hashes anything: it is a label: what it is worth is what the hold of that sum in a sandbox is worth. -/
noncomputable def Try.pinned : Pinned := { name := "qxb6600854a", sum := "d9feb6b5253ba9444db8132bc0d7d131b77c8bcfa6c7feefb0e8682164f7084e", checked := Try.checked }
namespace Rows
def none {H : Type} : Left H := { results := [], args := [] }

/-- 'zzlaws_internal_streaming_b1.FnCellRunIsTheCellsStretch': WHATEVER THE INPUT: true; the input reads as it did. -/
def fnCellRunIsTheCellsStretchSpec : ChangeSpec := { name := "fnCellRunIsTheCellsStretch", fn := fun _ => fun
  | [d1, d2, d3] => { results := [.lit (.bool true)], args := [d1, d2, d3] }
  | _ => none }
def fnCellRunIsTheCellsStretchRow : OpenClaim := { program := "qxb6600854a", sum := "d9feb6b5253ba9444db8132bc0d7d131b77c8bcfa6c7feefb0e8682164f7084e", func := "example.com/mirrorfold/mirrorfold/zzlaws_internal_streaming_b1.FnCellRunIsTheCellsStretch", spec := "fnCellRunIsTheCellsStretch", apart := false }
def FnCellRunIsTheCellsStretchSaid : Prop := fnCellRunIsTheCellsStretchRow.holds Try.pinned (OpenSpec.ofChange fnCellRunIsTheCellsStretchSpec)

/-- ITS FALSE NEIGHBOUR: 'it returns false'. Refute it at one input. -/
def fnCellRunIsTheCellsStretchWrong : ChangeSpec := { name := "fnCellRunIsTheCellsStretch", fn := fun _ => fun
  | [d1, d2, d3] => { results := [.lit (.bool false)], args := [d1, d2, d3] }
  | _ => none }
def FnCellRunIsTheCellsStretchWrongFalsely : Prop := fnCellRunIsTheCellsStretchRow.holds Try.pinned (OpenSpec.ofChange fnCellRunIsTheCellsStretchWrong)

/-- 'zzlaws_internal_streaming_b1.FnCellRunStaysInsideKeys': WHATEVER THE INPUT: true; the input reads as it did. -/
def fnCellRunStaysInsideKeysSpec : ChangeSpec := { name := "fnCellRunStaysInsideKeys", fn := fun _ => fun
  | [d1, d2, d3] => { results := [.lit (.bool true)], args := [d1, d2, d3] }
  | _ => none }
def fnCellRunStaysInsideKeysRow : OpenClaim := { program := "qxb6600854a", sum := "d9feb6b5253ba9444db8132bc0d7d131b77c8bcfa6c7feefb0e8682164f7084e", func := "example.com/mirrorfold/mirrorfold/zzlaws_internal_streaming_b1.FnCellRunStaysInsideKeys", spec := "fnCellRunStaysInsideKeys", apart := false }
def FnCellRunStaysInsideKeysSaid : Prop := fnCellRunStaysInsideKeysRow.holds Try.pinned (OpenSpec.ofChange fnCellRunStaysInsideKeysSpec)

/-- ITS FALSE NEIGHBOUR: 'it returns false'. Refute it at one input. -/
def fnCellRunStaysInsideKeysWrong : ChangeSpec := { name := "fnCellRunStaysInsideKeys", fn := fun _ => fun
  | [d1, d2, d3] => { results := [.lit (.bool false)], args := [d1, d2, d3] }
  | _ => none }
def FnCellRunStaysInsideKeysWrongFalsely : Prop := fnCellRunStaysInsideKeysRow.holds Try.pinned (OpenSpec.ofChange fnCellRunStaysInsideKeysWrong)

/-- 'zzlaws_internal_streaming_b1.FnGridCopiesIsTheLeastCoverCount': WHATEVER THE INPUT: true; the input reads as it did. -/
def fnGridCopiesIsTheLeastCoverCountSpec : ChangeSpec := { name := "fnGridCopiesIsTheLeastCoverCount", fn := fun _ => fun
  | [d1, d2, d3] => { results := [.lit (.bool true)], args := [d1, d2, d3] }
  | _ => none }
def fnGridCopiesIsTheLeastCoverCountRow : OpenClaim := { program := "qxb6600854a", sum := "d9feb6b5253ba9444db8132bc0d7d131b77c8bcfa6c7feefb0e8682164f7084e", func := "example.com/mirrorfold/mirrorfold/zzlaws_internal_streaming_b1.FnGridCopiesIsTheLeastCoverCount", spec := "fnGridCopiesIsTheLeastCoverCount", apart := false }
def FnGridCopiesIsTheLeastCoverCountSaid : Prop := fnGridCopiesIsTheLeastCoverCountRow.holds Try.pinned (OpenSpec.ofChange fnGridCopiesIsTheLeastCoverCountSpec)

/-- ITS FALSE NEIGHBOUR: 'it returns false'. Refute it at one input. -/
def fnGridCopiesIsTheLeastCoverCountWrong : ChangeSpec := { name := "fnGridCopiesIsTheLeastCoverCount", fn := fun _ => fun
  | [d1, d2, d3] => { results := [.lit (.bool false)], args := [d1, d2, d3] }
  | _ => none }
def FnGridCopiesIsTheLeastCoverCountWrongFalsely : Prop := fnGridCopiesIsTheLeastCoverCountRow.holds Try.pinned (OpenSpec.ofChange fnGridCopiesIsTheLeastCoverCountWrong)

/-- 'zzlaws_internal_streaming_b1.FnGridCopiesFallAsHopsGrow': WHATEVER THE INPUT: true; the input reads as it did. -/
def fnGridCopiesFallAsHopsGrowSpec : ChangeSpec := { name := "fnGridCopiesFallAsHopsGrow", fn := fun _ => fun
  | [d1, d2, d3, d4] => { results := [.lit (.bool true)], args := [d1, d2, d3, d4] }
  | _ => none }
def fnGridCopiesFallAsHopsGrowRow : OpenClaim := { program := "qxb6600854a", sum := "d9feb6b5253ba9444db8132bc0d7d131b77c8bcfa6c7feefb0e8682164f7084e", func := "example.com/mirrorfold/mirrorfold/zzlaws_internal_streaming_b1.FnGridCopiesFallAsHopsGrow", spec := "fnGridCopiesFallAsHopsGrow", apart := false }
def FnGridCopiesFallAsHopsGrowSaid : Prop := fnGridCopiesFallAsHopsGrowRow.holds Try.pinned (OpenSpec.ofChange fnGridCopiesFallAsHopsGrowSpec)

/-- ITS FALSE NEIGHBOUR: 'it returns false'. Refute it at one input. -/
def fnGridCopiesFallAsHopsGrowWrong : ChangeSpec := { name := "fnGridCopiesFallAsHopsGrow", fn := fun _ => fun
  | [d1, d2, d3, d4] => { results := [.lit (.bool false)], args := [d1, d2, d3, d4] }
  | _ => none }
def FnGridCopiesFallAsHopsGrowWrongFalsely : Prop := fnGridCopiesFallAsHopsGrowRow.holds Try.pinned (OpenSpec.ofChange fnGridCopiesFallAsHopsGrowWrong)

/-- 'zzlaws_internal_streaming_b1.FnLinkWithinIsAllPairsInReach': WHATEVER THE INPUT: true; the input reads as it did. -/
def fnLinkWithinIsAllPairsInReachSpec : ChangeSpec := { name := "fnLinkWithinIsAllPairsInReach", fn := fun _ => fun
  | [d1, d2, d3, d4] => { results := [.lit (.bool true)], args := [d1, d2, d3, d4] }
  | _ => none }
def fnLinkWithinIsAllPairsInReachRow : OpenClaim := { program := "qxb6600854a", sum := "d9feb6b5253ba9444db8132bc0d7d131b77c8bcfa6c7feefb0e8682164f7084e", func := "example.com/mirrorfold/mirrorfold/zzlaws_internal_streaming_b1.FnLinkWithinIsAllPairsInReach", spec := "fnLinkWithinIsAllPairsInReach", recurses := true, apart := false }
def FnLinkWithinIsAllPairsInReachSaid : Prop := fnLinkWithinIsAllPairsInReachRow.holds Try.pinned (OpenSpec.ofChange fnLinkWithinIsAllPairsInReachSpec)

/-- ITS FALSE NEIGHBOUR: 'it returns false'. Refute it at one input. -/
def fnLinkWithinIsAllPairsInReachWrong : ChangeSpec := { name := "fnLinkWithinIsAllPairsInReach", fn := fun _ => fun
  | [d1, d2, d3, d4] => { results := [.lit (.bool false)], args := [d1, d2, d3, d4] }
  | _ => none }
def FnLinkWithinIsAllPairsInReachWrongFalsely : Prop := fnLinkWithinIsAllPairsInReachRow.holds Try.pinned (OpenSpec.ofChange fnLinkWithinIsAllPairsInReachWrong)

/-- 'zzlaws_internal_streaming_b1.FnLinkWithinSideIsOnlyATuning': WHATEVER THE INPUT: true; the input reads as it did. -/
def fnLinkWithinSideIsOnlyATuningSpec : ChangeSpec := { name := "fnLinkWithinSideIsOnlyATuning", fn := fun _ => fun
  | [d1, d2, d3, d4, d5] => { results := [.lit (.bool true)], args := [d1, d2, d3, d4, d5] }
  | _ => none }
def fnLinkWithinSideIsOnlyATuningRow : OpenClaim := { program := "qxb6600854a", sum := "d9feb6b5253ba9444db8132bc0d7d131b77c8bcfa6c7feefb0e8682164f7084e", func := "example.com/mirrorfold/mirrorfold/zzlaws_internal_streaming_b1.FnLinkWithinSideIsOnlyATuning", spec := "fnLinkWithinSideIsOnlyATuning", recurses := true, apart := false }
def FnLinkWithinSideIsOnlyATuningSaid : Prop := fnLinkWithinSideIsOnlyATuningRow.holds Try.pinned (OpenSpec.ofChange fnLinkWithinSideIsOnlyATuningSpec)

/-- ITS FALSE NEIGHBOUR: 'it returns false'. Refute it at one input. -/
def fnLinkWithinSideIsOnlyATuningWrong : ChangeSpec := { name := "fnLinkWithinSideIsOnlyATuning", fn := fun _ => fun
  | [d1, d2, d3, d4, d5] => { results := [.lit (.bool false)], args := [d1, d2, d3, d4, d5] }
  | _ => none }
def FnLinkWithinSideIsOnlyATuningWrongFalsely : Prop := fnLinkWithinSideIsOnlyATuningRow.holds Try.pinned (OpenSpec.ofChange fnLinkWithinSideIsOnlyATuningWrong)

end Rows
end Go.Proofs.Qxb6600854a
