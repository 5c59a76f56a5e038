/-
  No cell of these rows narrows 'for every input' (looked for: loops, veiled, ifaces, maps, wideKeys, modest, calm, conditions, laid).
  DERIVED. THE GIVEN ROWS OF THIS SEAT. 6 by the template 'for every input the law returns true; each argument reads behind the call as it read before'; 0 by the template 'total and deterministic' (their statements: Qxb6600089aModsTotals.lean).
  GIVEN WITH THE SEED: the statements are not yours to turn. If you find one false, say at which input.
  Laid BY PROGRAM, IN A SANDBOX (cutbox-rows.mjs): the forced cells as the released guide's own fill.sh prints them over the translation c7c97ae7aaf6955b… (all of the seat's roots in one cut). By AI agents, Wed Nov 11 2026. No macro, syntax, notation, axiom, sorry.
-/
import Derived.Test.Qxb6600089aModsChecked
import GoSem.Claim
import GoSem.ClaimJoined
import GoSem.ClaimMapViews
import Derived.JoinedTies
import Derived.KernelRfl
namespace Go.Proofs.Qxb6600089aMods
/- THE CELL 'sum', in the pinned program and in every row, IS THE sha256 OF THE DUMP (.gsa) THAT Qxb6600089aModsProg.lean LOADS. Nothing in Lean hashes anything: it is a label: what it is worth is what the hold of that sum in a sandbox is worth. -/
noncomputable def Trym.pinned : Pinned := { name := "qxb6600089amods", sum := "c7c97ae7aaf6955b712e0b5c0f8542ca84d6f44daf2d95a4a1dc73806e66d317", checked := Trym.checked }
namespace Rows
def none {H : Type} : Left H := { results := [], args := [] }

/-- 'zzlaws_internal_commitlog_b1.FnKeyOffsetsSetMatchesLastWriteModel': WHATEVER THE INPUT: true; the input reads as it did. -/
def fnKeyOffsetsSetMatchesLastWriteModelSpec : ChangeSpec := { name := "fnKeyOffsetsSetMatchesLastWriteModel", fn := fun _ => fun
  | [d1, d2] => { results := [.lit (.bool true)], args := [d1, d2] }
  | _ => none }
def fnKeyOffsetsSetMatchesLastWriteModelRow : OpenClaim := { program := "qxb6600089amods", sum := "c7c97ae7aaf6955b712e0b5c0f8542ca84d6f44daf2d95a4a1dc73806e66d317", func := "example.com/syncline/syncline/zzlaws_internal_commitlog_b1.FnKeyOffsetsSetMatchesLastWriteModel", spec := "fnKeyOffsetsSetMatchesLastWriteModel", make := .lifted ["publicsums"], apart := false }
def FnKeyOffsetsSetMatchesLastWriteModelSaid : Prop := fnKeyOffsetsSetMatchesLastWriteModelRow.holds Trym.pinned (OpenSpec.ofChange fnKeyOffsetsSetMatchesLastWriteModelSpec)

/-- ITS FALSE NEIGHBOUR: 'it returns false'. Refute it at one input. -/
def fnKeyOffsetsSetMatchesLastWriteModelWrong : ChangeSpec := { name := "fnKeyOffsetsSetMatchesLastWriteModel", fn := fun _ => fun
  | [d1, d2] => { results := [.lit (.bool false)], args := [d1, d2] }
  | _ => none }
def FnKeyOffsetsSetMatchesLastWriteModelWrongFalsely : Prop := fnKeyOffsetsSetMatchesLastWriteModelRow.holds Trym.pinned (OpenSpec.ofChange fnKeyOffsetsSetMatchesLastWriteModelWrong)

/-- 'zzlaws_internal_commitlog_b1.FnKeyOffsetsSetOnDistinctKeysCommute': WHATEVER THE INPUT: true; the input reads as it did. -/
def fnKeyOffsetsSetOnDistinctKeysCommuteSpec : ChangeSpec := { name := "fnKeyOffsetsSetOnDistinctKeysCommute", fn := fun _ => fun
  | [d1, d2, d3, d4, d5, d6] => { results := [.lit (.bool true)], args := [d1, d2, d3, d4, d5, d6] }
  | _ => none }
def fnKeyOffsetsSetOnDistinctKeysCommuteRow : OpenClaim := { program := "qxb6600089amods", sum := "c7c97ae7aaf6955b712e0b5c0f8542ca84d6f44daf2d95a4a1dc73806e66d317", func := "example.com/syncline/syncline/zzlaws_internal_commitlog_b1.FnKeyOffsetsSetOnDistinctKeysCommute", spec := "fnKeyOffsetsSetOnDistinctKeysCommute", make := .lifted ["publicsums"], apart := false }
def FnKeyOffsetsSetOnDistinctKeysCommuteSaid : Prop := fnKeyOffsetsSetOnDistinctKeysCommuteRow.holds Trym.pinned (OpenSpec.ofChange fnKeyOffsetsSetOnDistinctKeysCommuteSpec)

/-- ITS FALSE NEIGHBOUR: 'it returns false'. Refute it at one input. -/
def fnKeyOffsetsSetOnDistinctKeysCommuteWrong : ChangeSpec := { name := "fnKeyOffsetsSetOnDistinctKeysCommute", fn := fun _ => fun
  | [d1, d2, d3, d4, d5, d6] => { results := [.lit (.bool false)], args := [d1, d2, d3, d4, d5, d6] }
  | _ => none }
def FnKeyOffsetsSetOnDistinctKeysCommuteWrongFalsely : Prop := fnKeyOffsetsSetOnDistinctKeysCommuteRow.holds Trym.pinned (OpenSpec.ofChange fnKeyOffsetsSetOnDistinctKeysCommuteWrong)

/-- 'zzlaws_internal_commitlog_b1.FnKeyOffsetsSetTwiceIsSetOnce': WHATEVER THE INPUT: true; the input reads as it did. -/
def fnKeyOffsetsSetTwiceIsSetOnceSpec : ChangeSpec := { name := "fnKeyOffsetsSetTwiceIsSetOnce", fn := fun _ => fun
  | [d1, d2, d3, d4, d5] => { results := [.lit (.bool true)], args := [d1, d2, d3, d4, d5] }
  | _ => none }
def fnKeyOffsetsSetTwiceIsSetOnceRow : OpenClaim := { program := "qxb6600089amods", sum := "c7c97ae7aaf6955b712e0b5c0f8542ca84d6f44daf2d95a4a1dc73806e66d317", func := "example.com/syncline/syncline/zzlaws_internal_commitlog_b1.FnKeyOffsetsSetTwiceIsSetOnce", spec := "fnKeyOffsetsSetTwiceIsSetOnce", make := .lifted ["publicsums"], apart := false }
def FnKeyOffsetsSetTwiceIsSetOnceSaid : Prop := fnKeyOffsetsSetTwiceIsSetOnceRow.holds Trym.pinned (OpenSpec.ofChange fnKeyOffsetsSetTwiceIsSetOnceSpec)

/-- ITS FALSE NEIGHBOUR: 'it returns false'. Refute it at one input. -/
def fnKeyOffsetsSetTwiceIsSetOnceWrong : ChangeSpec := { name := "fnKeyOffsetsSetTwiceIsSetOnce", fn := fun _ => fun
  | [d1, d2, d3, d4, d5] => { results := [.lit (.bool false)], args := [d1, d2, d3, d4, d5] }
  | _ => none }
def FnKeyOffsetsSetTwiceIsSetOnceWrongFalsely : Prop := fnKeyOffsetsSetTwiceIsSetOnceRow.holds Trym.pinned (OpenSpec.ofChange fnKeyOffsetsSetTwiceIsSetOnceWrong)

/-- 'zzlaws_internal_commitlog_b1.FnTimeIndexWrittenEntryFollows': WHATEVER THE INPUT: true; the input reads as it did. -/
def fnTimeIndexWrittenEntryFollowsSpec : ChangeSpec := { name := "fnTimeIndexWrittenEntryFollows", fn := fun _ => fun
  | [d1, d2, d3, d4, d5, d6] => { results := [.lit (.bool true)], args := [d1, d2, d3, d4, d5, d6] }
  | _ => none }
def fnTimeIndexWrittenEntryFollowsRow : OpenClaim := { program := "qxb6600089amods", sum := "c7c97ae7aaf6955b712e0b5c0f8542ca84d6f44daf2d95a4a1dc73806e66d317", func := "example.com/syncline/syncline/zzlaws_internal_commitlog_b1.FnTimeIndexWrittenEntryFollows", spec := "fnTimeIndexWrittenEntryFollows", make := .lifted ["publicsums"], apart := false }
def FnTimeIndexWrittenEntryFollowsSaid : Prop := fnTimeIndexWrittenEntryFollowsRow.holds Trym.pinned (OpenSpec.ofChange fnTimeIndexWrittenEntryFollowsSpec)

/-- ITS FALSE NEIGHBOUR: 'it returns false'. Refute it at one input. -/
def fnTimeIndexWrittenEntryFollowsWrong : ChangeSpec := { name := "fnTimeIndexWrittenEntryFollows", fn := fun _ => fun
  | [d1, d2, d3, d4, d5, d6] => { results := [.lit (.bool false)], args := [d1, d2, d3, d4, d5, d6] }
  | _ => none }
def FnTimeIndexWrittenEntryFollowsWrongFalsely : Prop := fnTimeIndexWrittenEntryFollowsRow.holds Trym.pinned (OpenSpec.ofChange fnTimeIndexWrittenEntryFollowsWrong)

/-- 'zzlaws_internal_commitlog_b1.FnTimeIndexChainIsSearchable': WHATEVER THE INPUT: true; the input reads as it did. -/
def fnTimeIndexChainIsSearchableSpec : ChangeSpec := { name := "fnTimeIndexChainIsSearchable", fn := fun _ => fun
  | [d1, d2, d3, d4] => { results := [.lit (.bool true)], args := [d1, d2, d3, d4] }
  | _ => none }
def fnTimeIndexChainIsSearchableRow : OpenClaim := { program := "qxb6600089amods", sum := "c7c97ae7aaf6955b712e0b5c0f8542ca84d6f44daf2d95a4a1dc73806e66d317", func := "example.com/syncline/syncline/zzlaws_internal_commitlog_b1.FnTimeIndexChainIsSearchable", spec := "fnTimeIndexChainIsSearchable", make := .lifted ["publicsums"], apart := false }
def FnTimeIndexChainIsSearchableSaid : Prop := fnTimeIndexChainIsSearchableRow.holds Trym.pinned (OpenSpec.ofChange fnTimeIndexChainIsSearchableSpec)

/-- ITS FALSE NEIGHBOUR: 'it returns false'. Refute it at one input. -/
def fnTimeIndexChainIsSearchableWrong : ChangeSpec := { name := "fnTimeIndexChainIsSearchable", fn := fun _ => fun
  | [d1, d2, d3, d4] => { results := [.lit (.bool false)], args := [d1, d2, d3, d4] }
  | _ => none }
def FnTimeIndexChainIsSearchableWrongFalsely : Prop := fnTimeIndexChainIsSearchableRow.holds Trym.pinned (OpenSpec.ofChange fnTimeIndexChainIsSearchableWrong)

/-- 'zzlaws_internal_commitlog_b1.FnTimeIndexFollowsShiftInvariant': WHATEVER THE INPUT: true; the input reads as it did. -/
def fnTimeIndexFollowsShiftInvariantSpec : ChangeSpec := { name := "fnTimeIndexFollowsShiftInvariant", fn := fun _ => fun
  | [d1, d2, d3, d4, d5, d6, d7, d8, d9] => { results := [.lit (.bool true)], args := [d1, d2, d3, d4, d5, d6, d7, d8, d9] }
  | _ => none }
def fnTimeIndexFollowsShiftInvariantRow : OpenClaim := { program := "qxb6600089amods", sum := "c7c97ae7aaf6955b712e0b5c0f8542ca84d6f44daf2d95a4a1dc73806e66d317", func := "example.com/syncline/syncline/zzlaws_internal_commitlog_b1.FnTimeIndexFollowsShiftInvariant", spec := "fnTimeIndexFollowsShiftInvariant", make := .lifted ["publicsums"], apart := false }
def FnTimeIndexFollowsShiftInvariantSaid : Prop := fnTimeIndexFollowsShiftInvariantRow.holds Trym.pinned (OpenSpec.ofChange fnTimeIndexFollowsShiftInvariantSpec)

/-- ITS FALSE NEIGHBOUR: 'it returns false'. Refute it at one input. -/
def fnTimeIndexFollowsShiftInvariantWrong : ChangeSpec := { name := "fnTimeIndexFollowsShiftInvariant", fn := fun _ => fun
  | [d1, d2, d3, d4, d5, d6, d7, d8, d9] => { results := [.lit (.bool false)], args := [d1, d2, d3, d4, d5, d6, d7, d8, d9] }
  | _ => none }
def FnTimeIndexFollowsShiftInvariantWrongFalsely : Prop := fnTimeIndexFollowsShiftInvariantRow.holds Trym.pinned (OpenSpec.ofChange fnTimeIndexFollowsShiftInvariantWrong)

end Rows
end Go.Proofs.Qxb6600089aMods
