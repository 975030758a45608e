/-
  No cell of these rows narrows 'for every input' (looked for: loops, veiled, ifaces, maps, wideKeys, modest, calm, conditions, laid).
  DERIVED. THE GIVEN ROWS OF THIS SEAT. 6 by the template 'for every input the law returns true; each argument reads behind the call as it read before'; 0 by the template 'total and deterministic' (their statements: Qxb6601177aTotals.lean).
  GIVEN WITH THE SEED: the statements are not yours to turn. If you find one false, say at which input.
  Laid BY PROGRAM, IN A SANDBOX (cutbox-rows.mjs): the forced cells as the released guide's own fill.sh prints them over the translation 9e45df95c96dc980… (all of the seat's roots in one cut). By AI agents, Wed Nov 11 2026. No macro, syntax, notation, axiom, sorry.
-/
import Derived.Test.Qxb6601177aChecked
import GoSem.Claim
import GoSem.ClaimJoined
import GoSem.ClaimMapViews
import Derived.JoinedTies
import Derived.KernelRfl
namespace Go.Proofs.Qxb6601177a
/- THE CELL 'sum', in the pinned program and in every row, IS THE sha256 OF THE DUMP (.gsa) THAT Qxb6601177aProg.lean LOADS. Nothing in Lean hashes anything: it is a label: what it is worth is what the hold of that sum in a sandbox is worth. -/
noncomputable def Try.pinned : Pinned := { name := "qxb6601177a", sum := "9e45df95c96dc980ddd647aadeea7cf9b1a46ccdc6784c04490880abf9f3d46d", checked := Try.checked }
namespace Rows
def none {H : Type} : Left H := { results := [], args := [] }

/-- 'zzlaws_internal_diff_b1.FnScriptValidAndShortest': WHATEVER THE INPUT: true; the input reads as it did. -/
def fnScriptValidAndShortestSpec : ChangeSpec := { name := "fnScriptValidAndShortest", fn := fun _ => fun
  | [d1, d2] => { results := [.lit (.bool true)], args := [d1, d2] }
  | _ => none }
def fnScriptValidAndShortestRow : OpenClaim := { program := "qxb6601177a", sum := "9e45df95c96dc980ddd647aadeea7cf9b1a46ccdc6784c04490880abf9f3d46d", func := "example.com/kintsu/kintsu/zzlaws_internal_diff_b1.FnScriptValidAndShortest", spec := "fnScriptValidAndShortest", apart := false }
def FnScriptValidAndShortestSaid : Prop := fnScriptValidAndShortestRow.holds Try.pinned (OpenSpec.ofChange fnScriptValidAndShortestSpec)

/-- ITS FALSE NEIGHBOUR: 'it returns false'. Refute it at one input. -/
def fnScriptValidAndShortestWrong : ChangeSpec := { name := "fnScriptValidAndShortest", fn := fun _ => fun
  | [d1, d2] => { results := [.lit (.bool false)], args := [d1, d2] }
  | _ => none }
def FnScriptValidAndShortestWrongFalsely : Prop := fnScriptValidAndShortestRow.holds Try.pinned (OpenSpec.ofChange fnScriptValidAndShortestWrong)

/-- 'zzlaws_internal_diff_b1.FnScriptAppendedLines': WHATEVER THE INPUT: true; the input reads as it did. -/
def fnScriptAppendedLinesSpec : ChangeSpec := { name := "fnScriptAppendedLines", fn := fun _ => fun
  | [d1, d2] => { results := [.lit (.bool true)], args := [d1, d2] }
  | _ => none }
def fnScriptAppendedLinesRow : OpenClaim := { program := "qxb6601177a", sum := "9e45df95c96dc980ddd647aadeea7cf9b1a46ccdc6784c04490880abf9f3d46d", func := "example.com/kintsu/kintsu/zzlaws_internal_diff_b1.FnScriptAppendedLines", spec := "fnScriptAppendedLines", apart := false }
def FnScriptAppendedLinesSaid : Prop := fnScriptAppendedLinesRow.holds Try.pinned (OpenSpec.ofChange fnScriptAppendedLinesSpec)

/-- ITS FALSE NEIGHBOUR: 'it returns false'. Refute it at one input. -/
def fnScriptAppendedLinesWrong : ChangeSpec := { name := "fnScriptAppendedLines", fn := fun _ => fun
  | [d1, d2] => { results := [.lit (.bool false)], args := [d1, d2] }
  | _ => none }
def FnScriptAppendedLinesWrongFalsely : Prop := fnScriptAppendedLinesRow.holds Try.pinned (OpenSpec.ofChange fnScriptAppendedLinesWrong)

/-- 'zzlaws_internal_diff_b1.FnScriptSymmetricCounts': WHATEVER THE INPUT: true; the input reads as it did. -/
def fnScriptSymmetricCountsSpec : ChangeSpec := { name := "fnScriptSymmetricCounts", fn := fun _ => fun
  | [d1, d2] => { results := [.lit (.bool true)], args := [d1, d2] }
  | _ => none }
def fnScriptSymmetricCountsRow : OpenClaim := { program := "qxb6601177a", sum := "9e45df95c96dc980ddd647aadeea7cf9b1a46ccdc6784c04490880abf9f3d46d", func := "example.com/kintsu/kintsu/zzlaws_internal_diff_b1.FnScriptSymmetricCounts", spec := "fnScriptSymmetricCounts", apart := false }
def FnScriptSymmetricCountsSaid : Prop := fnScriptSymmetricCountsRow.holds Try.pinned (OpenSpec.ofChange fnScriptSymmetricCountsSpec)

/-- ITS FALSE NEIGHBOUR: 'it returns false'. Refute it at one input. -/
def fnScriptSymmetricCountsWrong : ChangeSpec := { name := "fnScriptSymmetricCounts", fn := fun _ => fun
  | [d1, d2] => { results := [.lit (.bool false)], args := [d1, d2] }
  | _ => none }
def FnScriptSymmetricCountsWrongFalsely : Prop := fnScriptSymmetricCountsRow.holds Try.pinned (OpenSpec.ofChange fnScriptSymmetricCountsWrong)

/-- 'zzlaws_internal_diff_b1.FnSearchValidAndShortest': WHATEVER THE INPUT: true; the input reads as it did. -/
def fnSearchValidAndShortestSpec : ChangeSpec := { name := "fnSearchValidAndShortest", fn := fun _ => fun
  | [d1, d2] => { results := [.lit (.bool true)], args := [d1, d2] }
  | _ => none }
def fnSearchValidAndShortestRow : OpenClaim := { program := "qxb6601177a", sum := "9e45df95c96dc980ddd647aadeea7cf9b1a46ccdc6784c04490880abf9f3d46d", func := "example.com/kintsu/kintsu/zzlaws_internal_diff_b1.FnSearchValidAndShortest", spec := "fnSearchValidAndShortest", apart := false }
def FnSearchValidAndShortestSaid : Prop := fnSearchValidAndShortestRow.holds Try.pinned (OpenSpec.ofChange fnSearchValidAndShortestSpec)

/-- ITS FALSE NEIGHBOUR: 'it returns false'. Refute it at one input. -/
def fnSearchValidAndShortestWrong : ChangeSpec := { name := "fnSearchValidAndShortest", fn := fun _ => fun
  | [d1, d2] => { results := [.lit (.bool false)], args := [d1, d2] }
  | _ => none }
def FnSearchValidAndShortestWrongFalsely : Prop := fnSearchValidAndShortestRow.holds Try.pinned (OpenSpec.ofChange fnSearchValidAndShortestWrong)

/-- 'zzlaws_internal_diff_b1.FnSearchAgreesWithScript': WHATEVER THE INPUT: true; the input reads as it did. -/
def fnSearchAgreesWithScriptSpec : ChangeSpec := { name := "fnSearchAgreesWithScript", fn := fun _ => fun
  | [d1, d2] => { results := [.lit (.bool true)], args := [d1, d2] }
  | _ => none }
def fnSearchAgreesWithScriptRow : OpenClaim := { program := "qxb6601177a", sum := "9e45df95c96dc980ddd647aadeea7cf9b1a46ccdc6784c04490880abf9f3d46d", func := "example.com/kintsu/kintsu/zzlaws_internal_diff_b1.FnSearchAgreesWithScript", spec := "fnSearchAgreesWithScript", apart := false }
def FnSearchAgreesWithScriptSaid : Prop := fnSearchAgreesWithScriptRow.holds Try.pinned (OpenSpec.ofChange fnSearchAgreesWithScriptSpec)

/-- ITS FALSE NEIGHBOUR: 'it returns false'. Refute it at one input. -/
def fnSearchAgreesWithScriptWrong : ChangeSpec := { name := "fnSearchAgreesWithScript", fn := fun _ => fun
  | [d1, d2] => { results := [.lit (.bool false)], args := [d1, d2] }
  | _ => none }
def FnSearchAgreesWithScriptWrongFalsely : Prop := fnSearchAgreesWithScriptRow.holds Try.pinned (OpenSpec.ofChange fnSearchAgreesWithScriptWrong)

/-- 'zzlaws_internal_diff_b1.FnSearchIdentical': WHATEVER THE INPUT: true; the input reads as it did. -/
def fnSearchIdenticalSpec : ChangeSpec := { name := "fnSearchIdentical", fn := fun _ => fun
  | [d] => { results := [.lit (.bool true)], args := [d] }
  | _ => none }
def fnSearchIdenticalRow : OpenClaim := { program := "qxb6601177a", sum := "9e45df95c96dc980ddd647aadeea7cf9b1a46ccdc6784c04490880abf9f3d46d", func := "example.com/kintsu/kintsu/zzlaws_internal_diff_b1.FnSearchIdentical", spec := "fnSearchIdentical", apart := false }
def FnSearchIdenticalSaid : Prop := fnSearchIdenticalRow.holds Try.pinned (OpenSpec.ofChange fnSearchIdenticalSpec)

/-- ITS FALSE NEIGHBOUR: 'it returns false'. Refute it at one input. -/
def fnSearchIdenticalWrong : ChangeSpec := { name := "fnSearchIdentical", fn := fun _ => fun
  | [d] => { results := [.lit (.bool false)], args := [d] }
  | _ => none }
def FnSearchIdenticalWrongFalsely : Prop := fnSearchIdenticalRow.holds Try.pinned (OpenSpec.ofChange fnSearchIdenticalWrong)

end Rows
end Go.Proofs.Qxb6601177a
