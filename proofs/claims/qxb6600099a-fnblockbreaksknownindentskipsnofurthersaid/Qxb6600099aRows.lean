/-
  No cell of these rows narrows 'for every input' (looked for: loops, veiled, ifaces, maps, wideKeys, modest, calm, conditions, laid).
  DERIVED. THE GIVEN ROWS OF THIS SEAT. 7 by the template 'for every input the law returns true; each argument reads behind the call as it read before'; 0 by the template 'total and deterministic' (their statements: Qxb6600099aTotals.lean).
  GIVEN WITH THE SEED: the statements are not yours to turn. If you find one false, say at which input.
  Laid BY PROGRAM, IN A SANDBOX (cutbox-rows.mjs): the forced cells as the released guide's own fill.sh prints them over the translation 940ae64e6543bf65… (all of the seat's roots in one cut). By AI agents, Wed Nov 11 2026. No macro, syntax, notation, axiom, sorry.
-/
import Derived.Test.Qxb6600099aChecked
import GoSem.Claim
import GoSem.ClaimJoined
import GoSem.ClaimMapViews
import Derived.JoinedTies
import Derived.KernelRfl
namespace Go.Proofs.Qxb6600099a
/- THE CELL 'sum', in the pinned program and in every row, IS THE sha256 OF THE DUMP (.gsa) THAT Qxb6600099aProg.lean LOADS. Nothing in Lean hashes anything: it is a label: what it is worth is what the hold of that sum in a sandbox is worth. -/
noncomputable def Try.pinned : Pinned := { name := "qxb6600099a", sum := "940ae64e6543bf65b5a6619d76528fe69d61d7bb14195971b7d2b523911dcc10", checked := Try.checked }
namespace Rows
def none {H : Type} : Left H := { results := [], args := [] }

/-- 'zzlaws_manifest_b1.FnLineBreakIsLongestBreakSpelling': WHATEVER THE INPUT: true; the input reads as it did. -/
def fnLineBreakIsLongestBreakSpellingSpec : ChangeSpec := { name := "fnLineBreakIsLongestBreakSpelling", fn := fun _ => fun
  | [d1, d2] => { results := [.lit (.bool true)], args := [d1, d2] }
  | _ => none }
def fnLineBreakIsLongestBreakSpellingRow : OpenClaim := { program := "qxb6600099a", sum := "940ae64e6543bf65b5a6619d76528fe69d61d7bb14195971b7d2b523911dcc10", func := "example.com/moorline/moorline/zzlaws_manifest_b1.FnLineBreakIsLongestBreakSpelling", spec := "fnLineBreakIsLongestBreakSpelling", apart := false }
def FnLineBreakIsLongestBreakSpellingSaid : Prop := fnLineBreakIsLongestBreakSpellingRow.holds Try.pinned (OpenSpec.ofChange fnLineBreakIsLongestBreakSpellingSpec)

/-- ITS FALSE NEIGHBOUR: 'it returns false'. Refute it at one input. -/
def fnLineBreakIsLongestBreakSpellingWrong : ChangeSpec := { name := "fnLineBreakIsLongestBreakSpelling", fn := fun _ => fun
  | [d1, d2] => { results := [.lit (.bool false)], args := [d1, d2] }
  | _ => none }
def FnLineBreakIsLongestBreakSpellingWrongFalsely : Prop := fnLineBreakIsLongestBreakSpellingRow.holds Try.pinned (OpenSpec.ofChange fnLineBreakIsLongestBreakSpellingWrong)

/-- 'zzlaws_manifest_b1.FnLineBreakReadsOnlyThreeBytes': WHATEVER THE INPUT: true; the input reads as it did. -/
def fnLineBreakReadsOnlyThreeBytesSpec : ChangeSpec := { name := "fnLineBreakReadsOnlyThreeBytes", fn := fun _ => fun
  | [d1, d2, d3] => { results := [.lit (.bool true)], args := [d1, d2, d3] }
  | _ => none }
def fnLineBreakReadsOnlyThreeBytesRow : OpenClaim := { program := "qxb6600099a", sum := "940ae64e6543bf65b5a6619d76528fe69d61d7bb14195971b7d2b523911dcc10", func := "example.com/moorline/moorline/zzlaws_manifest_b1.FnLineBreakReadsOnlyThreeBytes", spec := "fnLineBreakReadsOnlyThreeBytes", apart := false }
def FnLineBreakReadsOnlyThreeBytesSaid : Prop := fnLineBreakReadsOnlyThreeBytesRow.holds Try.pinned (OpenSpec.ofChange fnLineBreakReadsOnlyThreeBytesSpec)

/-- ITS FALSE NEIGHBOUR: 'it returns false'. Refute it at one input. -/
def fnLineBreakReadsOnlyThreeBytesWrong : ChangeSpec := { name := "fnLineBreakReadsOnlyThreeBytes", fn := fun _ => fun
  | [d1, d2, d3] => { results := [.lit (.bool false)], args := [d1, d2, d3] }
  | _ => none }
def FnLineBreakReadsOnlyThreeBytesWrongFalsely : Prop := fnLineBreakReadsOnlyThreeBytesRow.holds Try.pinned (OpenSpec.ofChange fnLineBreakReadsOnlyThreeBytesWrong)

/-- 'zzlaws_manifest_b1.FnLineBreakSplitsJoinedBreaks': WHATEVER THE INPUT: true; the input reads as it did. -/
def fnLineBreakSplitsJoinedBreaksSpec : ChangeSpec := { name := "fnLineBreakSplitsJoinedBreaks", fn := fun _ => fun
  | [d] => { results := [.lit (.bool true)], args := [d] }
  | _ => none }
def fnLineBreakSplitsJoinedBreaksRow : OpenClaim := { program := "qxb6600099a", sum := "940ae64e6543bf65b5a6619d76528fe69d61d7bb14195971b7d2b523911dcc10", func := "example.com/moorline/moorline/zzlaws_manifest_b1.FnLineBreakSplitsJoinedBreaks", spec := "fnLineBreakSplitsJoinedBreaks", apart := false }
def FnLineBreakSplitsJoinedBreaksSaid : Prop := fnLineBreakSplitsJoinedBreaksRow.holds Try.pinned (OpenSpec.ofChange fnLineBreakSplitsJoinedBreaksSpec)

/-- ITS FALSE NEIGHBOUR: 'it returns false'. Refute it at one input. -/
def fnLineBreakSplitsJoinedBreaksWrong : ChangeSpec := { name := "fnLineBreakSplitsJoinedBreaks", fn := fun _ => fun
  | [d] => { results := [.lit (.bool false)], args := [d] }
  | _ => none }
def FnLineBreakSplitsJoinedBreaksWrongFalsely : Prop := fnLineBreakSplitsJoinedBreaksRow.holds Try.pinned (OpenSpec.ofChange fnLineBreakSplitsJoinedBreaksWrong)

/-- 'zzlaws_manifest_b1.FnBlockBreaksFindsIndentOverBlankLines': WHATEVER THE INPUT: true; the input reads as it did. -/
def fnBlockBreaksFindsIndentOverBlankLinesSpec : ChangeSpec := { name := "fnBlockBreaksFindsIndentOverBlankLines", fn := fun _ => fun
  | [d1, d2, d3, d4, d5] => { results := [.lit (.bool true)], args := [d1, d2, d3, d4, d5] }
  | _ => none }
def fnBlockBreaksFindsIndentOverBlankLinesRow : OpenClaim := { program := "qxb6600099a", sum := "940ae64e6543bf65b5a6619d76528fe69d61d7bb14195971b7d2b523911dcc10", func := "example.com/moorline/moorline/zzlaws_manifest_b1.FnBlockBreaksFindsIndentOverBlankLines", spec := "fnBlockBreaksFindsIndentOverBlankLines", apart := false }
def FnBlockBreaksFindsIndentOverBlankLinesSaid : Prop := fnBlockBreaksFindsIndentOverBlankLinesRow.holds Try.pinned (OpenSpec.ofChange fnBlockBreaksFindsIndentOverBlankLinesSpec)

/-- ITS FALSE NEIGHBOUR: 'it returns false'. Refute it at one input. -/
def fnBlockBreaksFindsIndentOverBlankLinesWrong : ChangeSpec := { name := "fnBlockBreaksFindsIndentOverBlankLines", fn := fun _ => fun
  | [d1, d2, d3, d4, d5] => { results := [.lit (.bool false)], args := [d1, d2, d3, d4, d5] }
  | _ => none }
def FnBlockBreaksFindsIndentOverBlankLinesWrongFalsely : Prop := fnBlockBreaksFindsIndentOverBlankLinesRow.holds Try.pinned (OpenSpec.ofChange fnBlockBreaksFindsIndentOverBlankLinesWrong)

/-- 'zzlaws_manifest_b1.FnBlockBreaksFoundIndentReadsAlike': WHATEVER THE INPUT: true; the input reads as it did. -/
def fnBlockBreaksFoundIndentReadsAlikeSpec : ChangeSpec := { name := "fnBlockBreaksFoundIndentReadsAlike", fn := fun _ => fun
  | [d1, d2, d3, d4, d5] => { results := [.lit (.bool true)], args := [d1, d2, d3, d4, d5] }
  | _ => none }
def fnBlockBreaksFoundIndentReadsAlikeRow : OpenClaim := { program := "qxb6600099a", sum := "940ae64e6543bf65b5a6619d76528fe69d61d7bb14195971b7d2b523911dcc10", func := "example.com/moorline/moorline/zzlaws_manifest_b1.FnBlockBreaksFoundIndentReadsAlike", spec := "fnBlockBreaksFoundIndentReadsAlike", apart := false }
def FnBlockBreaksFoundIndentReadsAlikeSaid : Prop := fnBlockBreaksFoundIndentReadsAlikeRow.holds Try.pinned (OpenSpec.ofChange fnBlockBreaksFoundIndentReadsAlikeSpec)

/-- ITS FALSE NEIGHBOUR: 'it returns false'. Refute it at one input. -/
def fnBlockBreaksFoundIndentReadsAlikeWrong : ChangeSpec := { name := "fnBlockBreaksFoundIndentReadsAlike", fn := fun _ => fun
  | [d1, d2, d3, d4, d5] => { results := [.lit (.bool false)], args := [d1, d2, d3, d4, d5] }
  | _ => none }
def FnBlockBreaksFoundIndentReadsAlikeWrongFalsely : Prop := fnBlockBreaksFoundIndentReadsAlikeRow.holds Try.pinned (OpenSpec.ofChange fnBlockBreaksFoundIndentReadsAlikeWrong)

/-- 'zzlaws_manifest_b1.FnBlockBreaksKnownIndentSkipsNoFurther': WHATEVER THE INPUT: true; the input reads as it did. -/
def fnBlockBreaksKnownIndentSkipsNoFurtherSpec : ChangeSpec := { name := "fnBlockBreaksKnownIndentSkipsNoFurther", fn := fun _ => fun
  | [d1, d2, d3, d4, d5] => { results := [.lit (.bool true)], args := [d1, d2, d3, d4, d5] }
  | _ => none }
def fnBlockBreaksKnownIndentSkipsNoFurtherRow : OpenClaim := { program := "qxb6600099a", sum := "940ae64e6543bf65b5a6619d76528fe69d61d7bb14195971b7d2b523911dcc10", func := "example.com/moorline/moorline/zzlaws_manifest_b1.FnBlockBreaksKnownIndentSkipsNoFurther", spec := "fnBlockBreaksKnownIndentSkipsNoFurther", apart := false }
def FnBlockBreaksKnownIndentSkipsNoFurtherSaid : Prop := fnBlockBreaksKnownIndentSkipsNoFurtherRow.holds Try.pinned (OpenSpec.ofChange fnBlockBreaksKnownIndentSkipsNoFurtherSpec)

/-- ITS FALSE NEIGHBOUR: 'it returns false'. Refute it at one input. -/
def fnBlockBreaksKnownIndentSkipsNoFurtherWrong : ChangeSpec := { name := "fnBlockBreaksKnownIndentSkipsNoFurther", fn := fun _ => fun
  | [d1, d2, d3, d4, d5] => { results := [.lit (.bool false)], args := [d1, d2, d3, d4, d5] }
  | _ => none }
def FnBlockBreaksKnownIndentSkipsNoFurtherWrongFalsely : Prop := fnBlockBreaksKnownIndentSkipsNoFurtherRow.holds Try.pinned (OpenSpec.ofChange fnBlockBreaksKnownIndentSkipsNoFurtherWrong)

/-- 'zzlaws_manifest_b1.FnValueKeepsBlockIndentsIncreasing': WHATEVER THE INPUT: true; the input reads as it did. -/
def fnValueKeepsBlockIndentsIncreasingSpec : ChangeSpec := { name := "fnValueKeepsBlockIndentsIncreasing", fn := fun _ => fun
  | [d1, d2, d3, d4, d5, d6, d7, d8, d9, d10, d11] => { results := [.lit (.bool true)], args := [d1, d2, d3, d4, d5, d6, d7, d8, d9, d10, d11] }
  | _ => none }
def fnValueKeepsBlockIndentsIncreasingRow : OpenClaim := { program := "qxb6600099a", sum := "940ae64e6543bf65b5a6619d76528fe69d61d7bb14195971b7d2b523911dcc10", func := "example.com/moorline/moorline/zzlaws_manifest_b1.FnValueKeepsBlockIndentsIncreasing", spec := "fnValueKeepsBlockIndentsIncreasing", apart := false }
def FnValueKeepsBlockIndentsIncreasingSaid : Prop := fnValueKeepsBlockIndentsIncreasingRow.holds Try.pinned (OpenSpec.ofChange fnValueKeepsBlockIndentsIncreasingSpec)

/-- ITS FALSE NEIGHBOUR: 'it returns false'. Refute it at one input. -/
def fnValueKeepsBlockIndentsIncreasingWrong : ChangeSpec := { name := "fnValueKeepsBlockIndentsIncreasing", fn := fun _ => fun
  | [d1, d2, d3, d4, d5, d6, d7, d8, d9, d10, d11] => { results := [.lit (.bool false)], args := [d1, d2, d3, d4, d5, d6, d7, d8, d9, d10, d11] }
  | _ => none }
def FnValueKeepsBlockIndentsIncreasingWrongFalsely : Prop := fnValueKeepsBlockIndentsIncreasingRow.holds Try.pinned (OpenSpec.ofChange fnValueKeepsBlockIndentsIncreasingWrong)

end Rows
end Go.Proofs.Qxb6600099a
