/-
  No cell of these rows narrows 'for every input' (looked for: loops, veiled, ifaces, maps, wideKeys, modest, calm, conditions, laid).
  DERIVED. THE GIVEN ROWS OF THIS SEAT. 5 by the template 'for every input the law returns true; each argument reads behind the call as it read before'; 0 by the template 'total and deterministic' (their statements: Qxb6603828aTotals.lean).
  GIVEN WITH THE SEED: the statements are not yours to turn. If you find one false, say at which input.
  Laid BY PROGRAM, IN A SANDBOX (cutbox-rows.mjs): the forced cells as the released guide's own fill.sh prints them over the translation 253c47b13895ce86… (all of the seat's roots in one cut). By AI agents, Wed Nov 11 2026. No macro, syntax, notation, axiom, sorry.
-/
import Derived.Test.Qxb6603828aChecked
import GoSem.Claim
import GoSem.ClaimJoined
import GoSem.ClaimMapViews
import Derived.JoinedTies
import Derived.KernelRfl
namespace Go.Proofs.Qxb6603828a
/- THE CELL 'sum', in the pinned program and in every row, IS THE sha256 OF THE DUMP (.gsa) THAT Qxb6603828aProg.lean LOADS. Nothing in Lean hashes anything: it is a label: what it is worth is what the hold of that sum in a sandbox is worth. -/
noncomputable def Try.pinned : Pinned := { name := "qxb6603828a", sum := "253c47b13895ce86774e5b6d8ebae81411c260a435cc4290653950331511c0f3", checked := Try.checked }
namespace Rows
def none {H : Type} : Left H := { results := [], args := [] }

/-- 'zzlaws_root_b1.FnVisibleAtFindsPosthVisible': WHATEVER THE INPUT: true; the input reads as it did. -/
def fnVisibleAtFindsPosthVisibleSpec : ChangeSpec := { name := "fnVisibleAtFindsPosthVisible", fn := fun _ => fun
  | [d1, d2, d3, d4] => { results := [.lit (.bool true)], args := [d1, d2, d3, d4] }
  | _ => none }
def fnVisibleAtFindsPosthVisibleRow : OpenClaim := { program := "qxb6603828a", sum := "253c47b13895ce86774e5b6d8ebae81411c260a435cc4290653950331511c0f3", func := "example.com/tideline/tideline/zzlaws_root_b1.FnVisibleAtFindsPosthVisible", spec := "fnVisibleAtFindsPosthVisible", plainKeys := false, apart := false }
def FnVisibleAtFindsPosthVisibleSaid : Prop := fnVisibleAtFindsPosthVisibleRow.holds Try.pinned (OpenSpec.ofChange fnVisibleAtFindsPosthVisibleSpec)

/-- ITS FALSE NEIGHBOUR: 'it returns false'. Refute it at one input. -/
def fnVisibleAtFindsPosthVisibleWrong : ChangeSpec := { name := "fnVisibleAtFindsPosthVisible", fn := fun _ => fun
  | [d1, d2, d3, d4] => { results := [.lit (.bool false)], args := [d1, d2, d3, d4] }
  | _ => none }
def FnVisibleAtFindsPosthVisibleWrongFalsely : Prop := fnVisibleAtFindsPosthVisibleRow.holds Try.pinned (OpenSpec.ofChange fnVisibleAtFindsPosthVisibleWrong)

/-- 'zzlaws_root_b1.FnVisibleAtIgnoresBlockCuts': WHATEVER THE INPUT: true; the input reads as it did. -/
def fnVisibleAtIgnoresBlockCutsSpec : ChangeSpec := { name := "fnVisibleAtIgnoresBlockCuts", fn := fun _ => fun
  | [d1, d2, d3, d4] => { results := [.lit (.bool true)], args := [d1, d2, d3, d4] }
  | _ => none }
def fnVisibleAtIgnoresBlockCutsRow : OpenClaim := { program := "qxb6603828a", sum := "253c47b13895ce86774e5b6d8ebae81411c260a435cc4290653950331511c0f3", func := "example.com/tideline/tideline/zzlaws_root_b1.FnVisibleAtIgnoresBlockCuts", spec := "fnVisibleAtIgnoresBlockCuts", plainKeys := false, apart := false }
def FnVisibleAtIgnoresBlockCutsSaid : Prop := fnVisibleAtIgnoresBlockCutsRow.holds Try.pinned (OpenSpec.ofChange fnVisibleAtIgnoresBlockCutsSpec)

/-- ITS FALSE NEIGHBOUR: 'it returns false'. Refute it at one input. -/
def fnVisibleAtIgnoresBlockCutsWrong : ChangeSpec := { name := "fnVisibleAtIgnoresBlockCuts", fn := fun _ => fun
  | [d1, d2, d3, d4] => { results := [.lit (.bool false)], args := [d1, d2, d3, d4] }
  | _ => none }
def FnVisibleAtIgnoresBlockCutsWrongFalsely : Prop := fnVisibleAtIgnoresBlockCutsRow.holds Try.pinned (OpenSpec.ofChange fnVisibleAtIgnoresBlockCutsWrong)

/-- 'zzlaws_root_b1.FnRemoveMarksTheNextNVisible': WHATEVER THE INPUT: true; the input reads as it did. -/
def fnRemoveMarksTheNextNVisibleSpec : ChangeSpec := { name := "fnRemoveMarksTheNextNVisible", fn := fun _ => fun
  | [d1, d2, d3, d4, d5, d6] => { results := [.lit (.bool true)], args := [d1, d2, d3, d4, d5, d6] }
  | _ => none }
def fnRemoveMarksTheNextNVisibleRow : OpenClaim := { program := "qxb6603828a", sum := "253c47b13895ce86774e5b6d8ebae81411c260a435cc4290653950331511c0f3", func := "example.com/tideline/tideline/zzlaws_root_b1.FnRemoveMarksTheNextNVisible", spec := "fnRemoveMarksTheNextNVisible", plainKeys := false, apart := false }
def FnRemoveMarksTheNextNVisibleSaid : Prop := fnRemoveMarksTheNextNVisibleRow.holds Try.pinned (OpenSpec.ofChange fnRemoveMarksTheNextNVisibleSpec)

/-- ITS FALSE NEIGHBOUR: 'it returns false'. Refute it at one input. -/
def fnRemoveMarksTheNextNVisibleWrong : ChangeSpec := { name := "fnRemoveMarksTheNextNVisible", fn := fun _ => fun
  | [d1, d2, d3, d4, d5, d6] => { results := [.lit (.bool false)], args := [d1, d2, d3, d4, d5, d6] }
  | _ => none }
def FnRemoveMarksTheNextNVisibleWrongFalsely : Prop := fnRemoveMarksTheNextNVisibleRow.holds Try.pinned (OpenSpec.ofChange fnRemoveMarksTheNextNVisibleWrong)

/-- 'zzlaws_root_b1.FnRemoveShiftsLaterPositions': WHATEVER THE INPUT: true; the input reads as it did. -/
def fnRemoveShiftsLaterPositionsSpec : ChangeSpec := { name := "fnRemoveShiftsLaterPositions", fn := fun _ => fun
  | [d1, d2, d3, d4, d5, d6] => { results := [.lit (.bool true)], args := [d1, d2, d3, d4, d5, d6] }
  | _ => none }
def fnRemoveShiftsLaterPositionsRow : OpenClaim := { program := "qxb6603828a", sum := "253c47b13895ce86774e5b6d8ebae81411c260a435cc4290653950331511c0f3", func := "example.com/tideline/tideline/zzlaws_root_b1.FnRemoveShiftsLaterPositions", spec := "fnRemoveShiftsLaterPositions", plainKeys := false, apart := false }
def FnRemoveShiftsLaterPositionsSaid : Prop := fnRemoveShiftsLaterPositionsRow.holds Try.pinned (OpenSpec.ofChange fnRemoveShiftsLaterPositionsSpec)

/-- ITS FALSE NEIGHBOUR: 'it returns false'. Refute it at one input. -/
def fnRemoveShiftsLaterPositionsWrong : ChangeSpec := { name := "fnRemoveShiftsLaterPositions", fn := fun _ => fun
  | [d1, d2, d3, d4, d5, d6] => { results := [.lit (.bool false)], args := [d1, d2, d3, d4, d5, d6] }
  | _ => none }
def FnRemoveShiftsLaterPositionsWrongFalsely : Prop := fnRemoveShiftsLaterPositionsRow.holds Try.pinned (OpenSpec.ofChange fnRemoveShiftsLaterPositionsWrong)

/-- 'zzlaws_root_b1.FnBlockOfIsLastHolder': WHATEVER THE INPUT: true; the input reads as it did. -/
def fnBlockOfIsLastHolderSpec : ChangeSpec := { name := "fnBlockOfIsLastHolder", fn := fun _ => fun
  | [d1, d2, d3, d4, d5, d6, d7] => { results := [.lit (.bool true)], args := [d1, d2, d3, d4, d5, d6, d7] }
  | _ => none }
def fnBlockOfIsLastHolderRow : OpenClaim := { program := "qxb6603828a", sum := "253c47b13895ce86774e5b6d8ebae81411c260a435cc4290653950331511c0f3", func := "example.com/tideline/tideline/zzlaws_root_b1.FnBlockOfIsLastHolder", spec := "fnBlockOfIsLastHolder", plainKeys := false, apart := false }
def FnBlockOfIsLastHolderSaid : Prop := fnBlockOfIsLastHolderRow.holds Try.pinned (OpenSpec.ofChange fnBlockOfIsLastHolderSpec)

/-- ITS FALSE NEIGHBOUR: 'it returns false'. Refute it at one input. -/
def fnBlockOfIsLastHolderWrong : ChangeSpec := { name := "fnBlockOfIsLastHolder", fn := fun _ => fun
  | [d1, d2, d3, d4, d5, d6, d7] => { results := [.lit (.bool false)], args := [d1, d2, d3, d4, d5, d6, d7] }
  | _ => none }
def FnBlockOfIsLastHolderWrongFalsely : Prop := fnBlockOfIsLastHolderRow.holds Try.pinned (OpenSpec.ofChange fnBlockOfIsLastHolderWrong)

end Rows
end Go.Proofs.Qxb6603828a
