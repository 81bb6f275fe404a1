/-
  No cell of these rows narrows 'for every input' (looked for: loops, veiled, ifaces, maps, wideKeys, modest, calm, conditions, laid).
  DERIVED. THE GIVEN ROWS OF THIS SEAT. 2 by the template 'for every input the law returns true; each argument reads behind the call as it read before'; 0 by the template 'total and deterministic' (their statements: Qxb6615118aTotals.lean).
  GIVEN WITH THE SEED: the statements are not yours to turn. If you find one false, say at which input.
  Laid BY PROGRAM, IN A SANDBOX (cutbox-rows.mjs): the forced cells as the released guide's own fill.sh prints them over the translation e37494561164f5c4… (all of the seat's roots in one cut). By AI agents, Wed Nov 11 2026. No macro, syntax, notation, axiom, sorry.
-/
import Derived.Test.Qxb6615118aChecked
import GoSem.Claim
import GoSem.ClaimJoined
import GoSem.ClaimMapViews
import Derived.JoinedTies
import Derived.KernelRfl
namespace Go.Proofs.Qxb6615118a
/- THE CELL 'sum', in the pinned program and in every row, IS THE sha256 OF THE DUMP (.gsa) THAT Qxb6615118aProg.lean LOADS. Nothing in Lean hashes anything: it is a label: what it is worth is what the hold of that sum in a sandbox is worth. -/
noncomputable def Try.pinned : Pinned := { name := "qxb6615118a", sum := "e37494561164f5c49ea4a350cdf9880c1f0e4091354dbedf0a05f79309420d16", checked := Try.checked }
namespace Rows
def none {H : Type} : Left H := { results := [], args := [] }

/-- 'zzlaws_internal_plainjson_b1.FnTokenStartIgnoresDroppedPrefix': WHATEVER THE INPUT: true; the input reads as it did. -/
def fnTokenStartIgnoresDroppedPrefixSpec : ChangeSpec := { name := "fnTokenStartIgnoresDroppedPrefix", fn := fun _ => fun
  | [d1, d2, d3, d4] => { results := [.lit (.bool true)], args := [d1, d2, d3, d4] }
  | _ => none }
def fnTokenStartIgnoresDroppedPrefixRow : OpenClaim := { program := "qxb6615118a", sum := "e37494561164f5c49ea4a350cdf9880c1f0e4091354dbedf0a05f79309420d16", func := "example.com/byteloom/byteloom/zzlaws_internal_plainjson_b1.FnTokenStartIgnoresDroppedPrefix", spec := "fnTokenStartIgnoresDroppedPrefix", apart := false }
def FnTokenStartIgnoresDroppedPrefixSaid : Prop := fnTokenStartIgnoresDroppedPrefixRow.holds Try.pinned (OpenSpec.ofChange fnTokenStartIgnoresDroppedPrefixSpec)

/-- ITS FALSE NEIGHBOUR: 'it returns false'. Refute it at one input. -/
def fnTokenStartIgnoresDroppedPrefixWrong : ChangeSpec := { name := "fnTokenStartIgnoresDroppedPrefix", fn := fun _ => fun
  | [d1, d2, d3, d4] => { results := [.lit (.bool false)], args := [d1, d2, d3, d4] }
  | _ => none }
def FnTokenStartIgnoresDroppedPrefixWrongFalsely : Prop := fnTokenStartIgnoresDroppedPrefixRow.holds Try.pinned (OpenSpec.ofChange fnTokenStartIgnoresDroppedPrefixWrong)

/-- 'zzlaws_internal_plainjson_b1.FnTokenStartStableUnderMoreInput': WHATEVER THE INPUT: true; the input reads as it did. -/
def fnTokenStartStableUnderMoreInputSpec : ChangeSpec := { name := "fnTokenStartStableUnderMoreInput", fn := fun _ => fun
  | [d1, d2, d3, d4] => { results := [.lit (.bool true)], args := [d1, d2, d3, d4] }
  | _ => none }
def fnTokenStartStableUnderMoreInputRow : OpenClaim := { program := "qxb6615118a", sum := "e37494561164f5c49ea4a350cdf9880c1f0e4091354dbedf0a05f79309420d16", func := "example.com/byteloom/byteloom/zzlaws_internal_plainjson_b1.FnTokenStartStableUnderMoreInput", spec := "fnTokenStartStableUnderMoreInput", apart := false }
def FnTokenStartStableUnderMoreInputSaid : Prop := fnTokenStartStableUnderMoreInputRow.holds Try.pinned (OpenSpec.ofChange fnTokenStartStableUnderMoreInputSpec)

/-- ITS FALSE NEIGHBOUR: 'it returns false'. Refute it at one input. -/
def fnTokenStartStableUnderMoreInputWrong : ChangeSpec := { name := "fnTokenStartStableUnderMoreInput", fn := fun _ => fun
  | [d1, d2, d3, d4] => { results := [.lit (.bool false)], args := [d1, d2, d3, d4] }
  | _ => none }
def FnTokenStartStableUnderMoreInputWrongFalsely : Prop := fnTokenStartStableUnderMoreInputRow.holds Try.pinned (OpenSpec.ofChange fnTokenStartStableUnderMoreInputWrong)

end Rows
end Go.Proofs.Qxb6615118a
