/-
  No cell of these rows narrows 'for every input' (looked for: loops, veiled, ifaces, maps, wideKeys, modest, calm, conditions, laid).
  DERIVED. THE GIVEN ROWS OF THIS SEAT. 5 by the template 'for every input the law returns true; each argument reads behind the call as it read before'; 0 by the template 'total and deterministic' (their statements: Qxb6613289aModsTotals.lean).
  GIVEN WITH THE SEED: the statements are not yours to turn. If you find one false, say at which input.
  Laid BY PROGRAM, IN A SANDBOX (cutbox-rows.mjs): the forced cells as the released guide's own fill.sh prints them over the translation 9311000966c3df59… (all of the seat's roots in one cut). By AI agents, Wed Nov 11 2026. No macro, syntax, notation, axiom, sorry.
-/
import Derived.Test.Qxb6613289aModsChecked
import GoSem.Claim
import GoSem.ClaimJoined
import GoSem.ClaimMapViews
import Derived.JoinedTies
import Derived.KernelRfl
namespace Go.Proofs.Qxb6613289aMods
/- THE CELL 'sum', in the pinned program and in every row, IS THE sha256 OF THE DUMP (.gsa) THAT Qxb6613289aModsProg.lean LOADS. Nothing in Lean hashes anything: it is a label: what it is worth is what the hold of that sum in a sandbox is worth. -/
noncomputable def Trym.pinned : Pinned := { name := "qxb6613289amods", sum := "9311000966c3df599dc2f08b3f7ecdb1db33187632aea62464fa34aec9f9f9d9", checked := Trym.checked }
namespace Rows
def none {H : Type} : Left H := { results := [], args := [] }

/-- 'zzlaws_root_b1.FnStateOfGivesEachNodeItsOwnState': WHATEVER THE INPUT: true; the input reads as it did. -/
def fnStateOfGivesEachNodeItsOwnStateSpec : ChangeSpec := { name := "fnStateOfGivesEachNodeItsOwnState", fn := fun _ => fun
  | [d1, d2, d3, d4, d5] => { results := [.lit (.bool true)], args := [d1, d2, d3, d4, d5] }
  | _ => none }
def fnStateOfGivesEachNodeItsOwnStateRow : OpenClaim := { program := "qxb6613289amods", sum := "9311000966c3df599dc2f08b3f7ecdb1db33187632aea62464fa34aec9f9f9d9", func := "example.com/nibblewood/nibblewood/zzlaws_root_b1.FnStateOfGivesEachNodeItsOwnState", spec := "fnStateOfGivesEachNodeItsOwnState", make := .lifted ["publicsums"], apart := false }
def FnStateOfGivesEachNodeItsOwnStateSaid : Prop := fnStateOfGivesEachNodeItsOwnStateRow.holds Trym.pinned (OpenSpec.ofChange fnStateOfGivesEachNodeItsOwnStateSpec)

/-- ITS FALSE NEIGHBOUR: 'it returns false'. Refute it at one input. -/
def fnStateOfGivesEachNodeItsOwnStateWrong : ChangeSpec := { name := "fnStateOfGivesEachNodeItsOwnState", fn := fun _ => fun
  | [d1, d2, d3, d4, d5] => { results := [.lit (.bool false)], args := [d1, d2, d3, d4, d5] }
  | _ => none }
def FnStateOfGivesEachNodeItsOwnStateWrongFalsely : Prop := fnStateOfGivesEachNodeItsOwnStateRow.holds Trym.pinned (OpenSpec.ofChange fnStateOfGivesEachNodeItsOwnStateWrong)

/-- 'zzlaws_root_b1.FnNewGivesFreshEmptyTries': WHATEVER THE INPUT: true; the input reads as it did. -/
def fnNewGivesFreshEmptyTriesSpec : ChangeSpec := { name := "fnNewGivesFreshEmptyTries", fn := fun _ => fun
  | [] => { results := [.lit (.bool true)], args := [] }
  | _ => none }
def fnNewGivesFreshEmptyTriesRow : OpenClaim := { program := "qxb6613289amods", sum := "9311000966c3df599dc2f08b3f7ecdb1db33187632aea62464fa34aec9f9f9d9", func := "example.com/nibblewood/nibblewood/zzlaws_root_b1.FnNewGivesFreshEmptyTries", spec := "fnNewGivesFreshEmptyTries", make := .lifted ["publicsums"], apart := false }
def FnNewGivesFreshEmptyTriesSaid : Prop := fnNewGivesFreshEmptyTriesRow.holds Trym.pinned (OpenSpec.ofChange fnNewGivesFreshEmptyTriesSpec)

/-- ITS FALSE NEIGHBOUR: 'it returns false'. Refute it at one input. -/
def fnNewGivesFreshEmptyTriesWrong : ChangeSpec := { name := "fnNewGivesFreshEmptyTries", fn := fun _ => fun
  | [] => { results := [.lit (.bool false)], args := [] }
  | _ => none }
def FnNewGivesFreshEmptyTriesWrongFalsely : Prop := fnNewGivesFreshEmptyTriesRow.holds Trym.pinned (OpenSpec.ofChange fnNewGivesFreshEmptyTriesWrong)

/-- 'zzlaws_root_b1.FnStateOfIsTheNodesOwnState': WHATEVER THE INPUT: true; the input reads as it did. -/
def fnStateOfIsTheNodesOwnStateSpec : ChangeSpec := { name := "fnStateOfIsTheNodesOwnState", fn := fun _ => fun
  | [d1, d2, d3, d4, d5, d6, d7] => { results := [.lit (.bool true)], args := [d1, d2, d3, d4, d5, d6, d7] }
  | _ => none }
def fnStateOfIsTheNodesOwnStateRow : OpenClaim := { program := "qxb6613289amods", sum := "9311000966c3df599dc2f08b3f7ecdb1db33187632aea62464fa34aec9f9f9d9", func := "example.com/nibblewood/nibblewood/zzlaws_root_b1.FnStateOfIsTheNodesOwnState", spec := "fnStateOfIsTheNodesOwnState", make := .lifted ["publicsums"], apart := false }
def FnStateOfIsTheNodesOwnStateSaid : Prop := fnStateOfIsTheNodesOwnStateRow.holds Trym.pinned (OpenSpec.ofChange fnStateOfIsTheNodesOwnStateSpec)

/-- ITS FALSE NEIGHBOUR: 'it returns false'. Refute it at one input. -/
def fnStateOfIsTheNodesOwnStateWrong : ChangeSpec := { name := "fnStateOfIsTheNodesOwnState", fn := fun _ => fun
  | [d1, d2, d3, d4, d5, d6, d7] => { results := [.lit (.bool false)], args := [d1, d2, d3, d4, d5, d6, d7] }
  | _ => none }
def FnStateOfIsTheNodesOwnStateWrongFalsely : Prop := fnStateOfIsTheNodesOwnStateRow.holds Trym.pinned (OpenSpec.ofChange fnStateOfIsTheNodesOwnStateWrong)

/-- 'zzlaws_root_b1.FnChangedMarksAndForgets': WHATEVER THE INPUT: true; the input reads as it did. -/
def fnChangedMarksAndForgetsSpec : ChangeSpec := { name := "fnChangedMarksAndForgets", fn := fun _ => fun
  | [d1, d2, d3, d4, d5, d6, d7, d8] => { results := [.lit (.bool true)], args := [d1, d2, d3, d4, d5, d6, d7, d8] }
  | _ => none }
def fnChangedMarksAndForgetsRow : OpenClaim := { program := "qxb6613289amods", sum := "9311000966c3df599dc2f08b3f7ecdb1db33187632aea62464fa34aec9f9f9d9", func := "example.com/nibblewood/nibblewood/zzlaws_root_b1.FnChangedMarksAndForgets", spec := "fnChangedMarksAndForgets", make := .lifted ["publicsums"], apart := false }
def FnChangedMarksAndForgetsSaid : Prop := fnChangedMarksAndForgetsRow.holds Trym.pinned (OpenSpec.ofChange fnChangedMarksAndForgetsSpec)

/-- ITS FALSE NEIGHBOUR: 'it returns false'. Refute it at one input. -/
def fnChangedMarksAndForgetsWrong : ChangeSpec := { name := "fnChangedMarksAndForgets", fn := fun _ => fun
  | [d1, d2, d3, d4, d5, d6, d7, d8] => { results := [.lit (.bool false)], args := [d1, d2, d3, d4, d5, d6, d7, d8] }
  | _ => none }
def FnChangedMarksAndForgetsWrongFalsely : Prop := fnChangedMarksAndForgetsRow.holds Trym.pinned (OpenSpec.ofChange fnChangedMarksAndForgetsWrong)

/-- 'zzlaws_root_b1.FnChangedTouchesOnlyItsNodeAndOnce': WHATEVER THE INPUT: true; the input reads as it did. -/
def fnChangedTouchesOnlyItsNodeAndOnceSpec : ChangeSpec := { name := "fnChangedTouchesOnlyItsNodeAndOnce", fn := fun _ => fun
  | [d1, d2, d3, d4, d5, d6, d7, d8, d9, d10, d11] => { results := [.lit (.bool true)], args := [d1, d2, d3, d4, d5, d6, d7, d8, d9, d10, d11] }
  | _ => none }
def fnChangedTouchesOnlyItsNodeAndOnceRow : OpenClaim := { program := "qxb6613289amods", sum := "9311000966c3df599dc2f08b3f7ecdb1db33187632aea62464fa34aec9f9f9d9", func := "example.com/nibblewood/nibblewood/zzlaws_root_b1.FnChangedTouchesOnlyItsNodeAndOnce", spec := "fnChangedTouchesOnlyItsNodeAndOnce", make := .lifted ["publicsums"], apart := false }
def FnChangedTouchesOnlyItsNodeAndOnceSaid : Prop := fnChangedTouchesOnlyItsNodeAndOnceRow.holds Trym.pinned (OpenSpec.ofChange fnChangedTouchesOnlyItsNodeAndOnceSpec)

/-- ITS FALSE NEIGHBOUR: 'it returns false'. Refute it at one input. -/
def fnChangedTouchesOnlyItsNodeAndOnceWrong : ChangeSpec := { name := "fnChangedTouchesOnlyItsNodeAndOnce", fn := fun _ => fun
  | [d1, d2, d3, d4, d5, d6, d7, d8, d9, d10, d11] => { results := [.lit (.bool false)], args := [d1, d2, d3, d4, d5, d6, d7, d8, d9, d10, d11] }
  | _ => none }
def FnChangedTouchesOnlyItsNodeAndOnceWrongFalsely : Prop := fnChangedTouchesOnlyItsNodeAndOnceRow.holds Trym.pinned (OpenSpec.ofChange fnChangedTouchesOnlyItsNodeAndOnceWrong)

end Rows
end Go.Proofs.Qxb6613289aMods
