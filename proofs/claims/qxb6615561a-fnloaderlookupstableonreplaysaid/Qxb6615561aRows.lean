/-
  No cell of these rows narrows 'for every input' (looked for: loops, veiled, ifaces, maps, wideKeys, modest, calm, conditions, laid).
  DERIVED. THE GIVEN ROWS OF THIS SEAT. 5 by the template 'for every input the law returns true; each argument reads behind the call as it read before'; 0 by the template 'total and deterministic' (their statements: Qxb6615561aTotals.lean).
  GIVEN WITH THE SEED: the statements are not yours to turn. If you find one false, say at which input.
  Laid BY PROGRAM, IN A SANDBOX (cutbox-rows.mjs): the forced cells as the released guide's own fill.sh prints them over the translation 8daefe7f08e71b4f… (all of the seat's roots in one cut). By AI agents, Wed Nov 11 2026. No macro, syntax, notation, axiom, sorry.
-/
import Derived.Test.Qxb6615561aChecked
import GoSem.Claim
import GoSem.ClaimJoined
import GoSem.ClaimMapViews
import Derived.JoinedTies
import Derived.KernelRfl
namespace Go.Proofs.Qxb6615561a
/- THE CELL 'sum', in the pinned program and in every row, IS THE sha256 OF THE DUMP (.gsa) THAT Qxb6615561aProg.lean LOADS. Nothing in Lean hashes anything: it is a label: what it is worth is what the hold of that sum in a sandbox is worth. -/
noncomputable def Try.pinned : Pinned := { name := "qxb6615561a", sum := "8daefe7f08e71b4fec4c6fbb996db1359fd0f7fd6913a43eda909f7e45801b65", checked := Try.checked }
namespace Rows
def none {H : Type} : Left H := { results := [], args := [] }

/-- 'zzlaws_internal_bench_b1.FnLoaderLookUpStableOnReplay': WHATEVER THE INPUT: true; the input reads as it did. -/
def fnLoaderLookUpStableOnReplaySpec : ChangeSpec := { name := "fnLoaderLookUpStableOnReplay", fn := fun _ => fun
  | [d1, d2, d3] => { results := [.lit (.bool true)], args := [d1, d2, d3] }
  | _ => none }
def fnLoaderLookUpStableOnReplayRow : OpenClaim := { program := "qxb6615561a", sum := "8daefe7f08e71b4fec4c6fbb996db1359fd0f7fd6913a43eda909f7e45801b65", func := "example.com/serialwise/serialwise/zzlaws_internal_bench_b1.FnLoaderLookUpStableOnReplay", spec := "fnLoaderLookUpStableOnReplay", unfollowed := true, recurses := true, plainKeys := false, apart := false }
def FnLoaderLookUpStableOnReplaySaid : Prop := fnLoaderLookUpStableOnReplayRow.holds Try.pinned (OpenSpec.ofChange fnLoaderLookUpStableOnReplaySpec)

/-- ITS FALSE NEIGHBOUR: 'it returns false'. Refute it at one input. -/
def fnLoaderLookUpStableOnReplayWrong : ChangeSpec := { name := "fnLoaderLookUpStableOnReplay", fn := fun _ => fun
  | [d1, d2, d3] => { results := [.lit (.bool false)], args := [d1, d2, d3] }
  | _ => none }
def FnLoaderLookUpStableOnReplayWrongFalsely : Prop := fnLoaderLookUpStableOnReplayRow.holds Try.pinned (OpenSpec.ofChange fnLoaderLookUpStableOnReplayWrong)

/-- 'zzlaws_internal_bench_b1.FnLinksRemoveOrderFree': WHATEVER THE INPUT: true; the input reads as it did. -/
def fnLinksRemoveOrderFreeSpec : ChangeSpec := { name := "fnLinksRemoveOrderFree", fn := fun _ => fun
  | [d1, d2, d3, d4] => { results := [.lit (.bool true)], args := [d1, d2, d3, d4] }
  | _ => none }
def fnLinksRemoveOrderFreeRow : OpenClaim := { program := "qxb6615561a", sum := "8daefe7f08e71b4fec4c6fbb996db1359fd0f7fd6913a43eda909f7e45801b65", func := "example.com/serialwise/serialwise/zzlaws_internal_bench_b1.FnLinksRemoveOrderFree", spec := "fnLinksRemoveOrderFree", plainKeys := false, apart := false }
def FnLinksRemoveOrderFreeSaid : Prop := fnLinksRemoveOrderFreeRow.holds Try.pinned (OpenSpec.ofChange fnLinksRemoveOrderFreeSpec)

/-- ITS FALSE NEIGHBOUR: 'it returns false'. Refute it at one input. -/
def fnLinksRemoveOrderFreeWrong : ChangeSpec := { name := "fnLinksRemoveOrderFree", fn := fun _ => fun
  | [d1, d2, d3, d4] => { results := [.lit (.bool false)], args := [d1, d2, d3, d4] }
  | _ => none }
def FnLinksRemoveOrderFreeWrongFalsely : Prop := fnLinksRemoveOrderFreeRow.holds Try.pinned (OpenSpec.ofChange fnLinksRemoveOrderFreeWrong)

/-- 'zzlaws_internal_bench_b1.FnRecordBeginDropsEarlierRun': WHATEVER THE INPUT: true; the input reads as it did. -/
def fnRecordBeginDropsEarlierRunSpec : ChangeSpec := { name := "fnRecordBeginDropsEarlierRun", fn := fun _ => fun
  | [d1, d2, d3, d4, d5, d6, d7, d8] => { results := [.lit (.bool true)], args := [d1, d2, d3, d4, d5, d6, d7, d8] }
  | _ => none }
def fnRecordBeginDropsEarlierRunRow : OpenClaim := { program := "qxb6615561a", sum := "8daefe7f08e71b4fec4c6fbb996db1359fd0f7fd6913a43eda909f7e45801b65", func := "example.com/serialwise/serialwise/zzlaws_internal_bench_b1.FnRecordBeginDropsEarlierRun", spec := "fnRecordBeginDropsEarlierRun", plainKeys := false, apart := false }
def FnRecordBeginDropsEarlierRunSaid : Prop := fnRecordBeginDropsEarlierRunRow.holds Try.pinned (OpenSpec.ofChange fnRecordBeginDropsEarlierRunSpec)

/-- ITS FALSE NEIGHBOUR: 'it returns false'. Refute it at one input. -/
def fnRecordBeginDropsEarlierRunWrong : ChangeSpec := { name := "fnRecordBeginDropsEarlierRun", fn := fun _ => fun
  | [d1, d2, d3, d4, d5, d6, d7, d8] => { results := [.lit (.bool false)], args := [d1, d2, d3, d4, d5, d6, d7, d8] }
  | _ => none }
def FnRecordBeginDropsEarlierRunWrongFalsely : Prop := fnRecordBeginDropsEarlierRunRow.holds Try.pinned (OpenSpec.ofChange fnRecordBeginDropsEarlierRunWrong)

/-- 'zzlaws_internal_bench_b1.FnRecordWriteLogsEveryWrite': WHATEVER THE INPUT: true; the input reads as it did. -/
def fnRecordWriteLogsEveryWriteSpec : ChangeSpec := { name := "fnRecordWriteLogsEveryWrite", fn := fun _ => fun
  | [d1, d2, d3, d4, d5] => { results := [.lit (.bool true)], args := [d1, d2, d3, d4, d5] }
  | _ => none }
def fnRecordWriteLogsEveryWriteRow : OpenClaim := { program := "qxb6615561a", sum := "8daefe7f08e71b4fec4c6fbb996db1359fd0f7fd6913a43eda909f7e45801b65", func := "example.com/serialwise/serialwise/zzlaws_internal_bench_b1.FnRecordWriteLogsEveryWrite", spec := "fnRecordWriteLogsEveryWrite", plainKeys := false, apart := false }
def FnRecordWriteLogsEveryWriteSaid : Prop := fnRecordWriteLogsEveryWriteRow.holds Try.pinned (OpenSpec.ofChange fnRecordWriteLogsEveryWriteSpec)

/-- ITS FALSE NEIGHBOUR: 'it returns false'. Refute it at one input. -/
def fnRecordWriteLogsEveryWriteWrong : ChangeSpec := { name := "fnRecordWriteLogsEveryWrite", fn := fun _ => fun
  | [d1, d2, d3, d4, d5] => { results := [.lit (.bool false)], args := [d1, d2, d3, d4, d5] }
  | _ => none }
def FnRecordWriteLogsEveryWriteWrongFalsely : Prop := fnRecordWriteLogsEveryWriteRow.holds Try.pinned (OpenSpec.ofChange fnRecordWriteLogsEveryWriteWrong)

/-- 'zzlaws_internal_bench_b1.FnLinksRemoveScriptKeepsList': WHATEVER THE INPUT: true; the input reads as it did. -/
def fnLinksRemoveScriptKeepsListSpec : ChangeSpec := { name := "fnLinksRemoveScriptKeepsList", fn := fun _ => fun
  | [d1, d2, d3] => { results := [.lit (.bool true)], args := [d1, d2, d3] }
  | _ => none }
def fnLinksRemoveScriptKeepsListRow : OpenClaim := { program := "qxb6615561a", sum := "8daefe7f08e71b4fec4c6fbb996db1359fd0f7fd6913a43eda909f7e45801b65", func := "example.com/serialwise/serialwise/zzlaws_internal_bench_b1.FnLinksRemoveScriptKeepsList", spec := "fnLinksRemoveScriptKeepsList", plainKeys := false, apart := false }
def FnLinksRemoveScriptKeepsListSaid : Prop := fnLinksRemoveScriptKeepsListRow.holds Try.pinned (OpenSpec.ofChange fnLinksRemoveScriptKeepsListSpec)

/-- ITS FALSE NEIGHBOUR: 'it returns false'. Refute it at one input. -/
def fnLinksRemoveScriptKeepsListWrong : ChangeSpec := { name := "fnLinksRemoveScriptKeepsList", fn := fun _ => fun
  | [d1, d2, d3] => { results := [.lit (.bool false)], args := [d1, d2, d3] }
  | _ => none }
def FnLinksRemoveScriptKeepsListWrongFalsely : Prop := fnLinksRemoveScriptKeepsListRow.holds Try.pinned (OpenSpec.ofChange fnLinksRemoveScriptKeepsListWrong)

end Rows
end Go.Proofs.Qxb6615561a
