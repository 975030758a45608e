/-
  No cell of these rows narrows 'for every input' (looked for: loops, veiled, ifaces, maps, wideKeys, modest, calm, conditions, laid).
  DERIVED. THE GIVEN ROWS OF THIS SEAT. 6 by the template 'for every input the law returns true; each argument reads behind the call as it read before'; 0 by the template 'total and deterministic' (their statements: Qxb6601166aTotals.lean).
  GIVEN WITH THE SEED: the statements are not yours to turn. If you find one false, say at which input.
  Laid BY PROGRAM, IN A SANDBOX (cutbox-rows.mjs): the forced cells as the released guide's own fill.sh prints them over the translation edb6527a79b2cbbf… (all of the seat's roots in one cut). By AI agents, Wed Nov 11 2026. No macro, syntax, notation, axiom, sorry.
-/
import Derived.Test.Qxb6601166aChecked
import GoSem.Claim
import GoSem.ClaimJoined
import GoSem.ClaimMapViews
import Derived.JoinedTies
import Derived.KernelRfl
namespace Go.Proofs.Qxb6601166a
/- THE CELL 'sum', in the pinned program and in every row, IS THE sha256 OF THE DUMP (.gsa) THAT Qxb6601166aProg.lean LOADS. Nothing in Lean hashes anything: it is a label: what it is worth is what the hold of that sum in a sandbox is worth. -/
noncomputable def Try.pinned : Pinned := { name := "qxb6601166a", sum := "edb6527a79b2cbbfece682a79561f5e880c5cbb40659e9ac45dabf8f681a0991", checked := Try.checked }
namespace Rows
def none {H : Type} : Left H := { results := [], args := [] }

/-- 'zzlaws_pkg_naming_b1.FnAttributeIsIdempotent': WHATEVER THE INPUT: true; the input reads as it did. -/
def fnAttributeIsIdempotentSpec : ChangeSpec := { name := "fnAttributeIsIdempotent", fn := fun _ => fun
  | [d] => { results := [.lit (.bool true)], args := [d] }
  | _ => none }
def fnAttributeIsIdempotentRow : OpenClaim := { program := "qxb6601166a", sum := "edb6527a79b2cbbfece682a79561f5e880c5cbb40659e9ac45dabf8f681a0991", func := "example.com/pathfold/pathfold/zzlaws_pkg_naming_b1.FnAttributeIsIdempotent", spec := "fnAttributeIsIdempotent", inPlace := ["internal/abi.NoEscape", "internal/bytealg.MakeNoZero"], apart := false }
def FnAttributeIsIdempotentSaid : Prop := fnAttributeIsIdempotentRow.holds Try.pinned (OpenSpec.ofChange fnAttributeIsIdempotentSpec)

/-- ITS FALSE NEIGHBOUR: 'it returns false'. Refute it at one input. -/
def fnAttributeIsIdempotentWrong : ChangeSpec := { name := "fnAttributeIsIdempotent", fn := fun _ => fun
  | [d] => { results := [.lit (.bool false)], args := [d] }
  | _ => none }
def FnAttributeIsIdempotentWrongFalsely : Prop := fnAttributeIsIdempotentRow.holds Try.pinned (OpenSpec.ofChange fnAttributeIsIdempotentWrong)

/-- 'zzlaws_pkg_naming_b1.FnAttributeServableAndRefusedExactly': WHATEVER THE INPUT: true; the input reads as it did. -/
def fnAttributeServableAndRefusedExactlySpec : ChangeSpec := { name := "fnAttributeServableAndRefusedExactly", fn := fun _ => fun
  | [d] => { results := [.lit (.bool true)], args := [d] }
  | _ => none }
def fnAttributeServableAndRefusedExactlyRow : OpenClaim := { program := "qxb6601166a", sum := "edb6527a79b2cbbfece682a79561f5e880c5cbb40659e9ac45dabf8f681a0991", func := "example.com/pathfold/pathfold/zzlaws_pkg_naming_b1.FnAttributeServableAndRefusedExactly", spec := "fnAttributeServableAndRefusedExactly", inPlace := ["internal/abi.NoEscape", "internal/bytealg.MakeNoZero"], apart := false }
def FnAttributeServableAndRefusedExactlySaid : Prop := fnAttributeServableAndRefusedExactlyRow.holds Try.pinned (OpenSpec.ofChange fnAttributeServableAndRefusedExactlySpec)

/-- ITS FALSE NEIGHBOUR: 'it returns false'. Refute it at one input. -/
def fnAttributeServableAndRefusedExactlyWrong : ChangeSpec := { name := "fnAttributeServableAndRefusedExactly", fn := fun _ => fun
  | [d] => { results := [.lit (.bool false)], args := [d] }
  | _ => none }
def FnAttributeServableAndRefusedExactlyWrongFalsely : Prop := fnAttributeServableAndRefusedExactlyRow.holds Try.pinned (OpenSpec.ofChange fnAttributeServableAndRefusedExactlyWrong)

/-- 'zzlaws_pkg_naming_b1.FnNameCharactersIsFullNameSubsequence': WHATEVER THE INPUT: true; the input reads as it did. -/
def fnNameCharactersIsFullNameSubsequenceSpec : ChangeSpec := { name := "fnNameCharactersIsFullNameSubsequence", fn := fun _ => fun
  | [d] => { results := [.lit (.bool true)], args := [d] }
  | _ => none }
def fnNameCharactersIsFullNameSubsequenceRow : OpenClaim := { program := "qxb6601166a", sum := "edb6527a79b2cbbfece682a79561f5e880c5cbb40659e9ac45dabf8f681a0991", func := "example.com/pathfold/pathfold/zzlaws_pkg_naming_b1.FnNameCharactersIsFullNameSubsequence", spec := "fnNameCharactersIsFullNameSubsequence", apart := false }
def FnNameCharactersIsFullNameSubsequenceSaid : Prop := fnNameCharactersIsFullNameSubsequenceRow.holds Try.pinned (OpenSpec.ofChange fnNameCharactersIsFullNameSubsequenceSpec)

/-- ITS FALSE NEIGHBOUR: 'it returns false'. Refute it at one input. -/
def fnNameCharactersIsFullNameSubsequenceWrong : ChangeSpec := { name := "fnNameCharactersIsFullNameSubsequence", fn := fun _ => fun
  | [d] => { results := [.lit (.bool false)], args := [d] }
  | _ => none }
def FnNameCharactersIsFullNameSubsequenceWrongFalsely : Prop := fnNameCharactersIsFullNameSubsequenceRow.holds Try.pinned (OpenSpec.ofChange fnNameCharactersIsFullNameSubsequenceWrong)

/-- 'zzlaws_pkg_naming_b1.FnNameCharactersOfOneByte': WHATEVER THE INPUT: true; the input reads as it did. -/
def fnNameCharactersOfOneByteSpec : ChangeSpec := { name := "fnNameCharactersOfOneByte", fn := fun _ => fun
  | [d] => { results := [.lit (.bool true)], args := [d] }
  | _ => none }
def fnNameCharactersOfOneByteRow : OpenClaim := { program := "qxb6601166a", sum := "edb6527a79b2cbbfece682a79561f5e880c5cbb40659e9ac45dabf8f681a0991", func := "example.com/pathfold/pathfold/zzlaws_pkg_naming_b1.FnNameCharactersOfOneByte", spec := "fnNameCharactersOfOneByte", apart := false }
def FnNameCharactersOfOneByteSaid : Prop := fnNameCharactersOfOneByteRow.holds Try.pinned (OpenSpec.ofChange fnNameCharactersOfOneByteSpec)

/-- ITS FALSE NEIGHBOUR: 'it returns false'. Refute it at one input. -/
def fnNameCharactersOfOneByteWrong : ChangeSpec := { name := "fnNameCharactersOfOneByte", fn := fun _ => fun
  | [d] => { results := [.lit (.bool false)], args := [d] }
  | _ => none }
def FnNameCharactersOfOneByteWrongFalsely : Prop := fnNameCharactersOfOneByteRow.holds Try.pinned (OpenSpec.ofChange fnNameCharactersOfOneByteWrong)

/-- 'zzlaws_pkg_naming_b1.FnNameCharactersSplitsOverConcatenation': WHATEVER THE INPUT: true; the input reads as it did. -/
def fnNameCharactersSplitsOverConcatenationSpec : ChangeSpec := { name := "fnNameCharactersSplitsOverConcatenation", fn := fun _ => fun
  | [d1, d2] => { results := [.lit (.bool true)], args := [d1, d2] }
  | _ => none }
def fnNameCharactersSplitsOverConcatenationRow : OpenClaim := { program := "qxb6601166a", sum := "edb6527a79b2cbbfece682a79561f5e880c5cbb40659e9ac45dabf8f681a0991", func := "example.com/pathfold/pathfold/zzlaws_pkg_naming_b1.FnNameCharactersSplitsOverConcatenation", spec := "fnNameCharactersSplitsOverConcatenation", apart := false }
def FnNameCharactersSplitsOverConcatenationSaid : Prop := fnNameCharactersSplitsOverConcatenationRow.holds Try.pinned (OpenSpec.ofChange fnNameCharactersSplitsOverConcatenationSpec)

/-- ITS FALSE NEIGHBOUR: 'it returns false'. Refute it at one input. -/
def fnNameCharactersSplitsOverConcatenationWrong : ChangeSpec := { name := "fnNameCharactersSplitsOverConcatenation", fn := fun _ => fun
  | [d1, d2] => { results := [.lit (.bool false)], args := [d1, d2] }
  | _ => none }
def FnNameCharactersSplitsOverConcatenationWrongFalsely : Prop := fnNameCharactersSplitsOverConcatenationRow.holds Try.pinned (OpenSpec.ofChange fnNameCharactersSplitsOverConcatenationWrong)

/-- 'zzlaws_pkg_naming_b1.FnNameCharactersIsIdempotent': WHATEVER THE INPUT: true; the input reads as it did. -/
def fnNameCharactersIsIdempotentSpec : ChangeSpec := { name := "fnNameCharactersIsIdempotent", fn := fun _ => fun
  | [d] => { results := [.lit (.bool true)], args := [d] }
  | _ => none }
def fnNameCharactersIsIdempotentRow : OpenClaim := { program := "qxb6601166a", sum := "edb6527a79b2cbbfece682a79561f5e880c5cbb40659e9ac45dabf8f681a0991", func := "example.com/pathfold/pathfold/zzlaws_pkg_naming_b1.FnNameCharactersIsIdempotent", spec := "fnNameCharactersIsIdempotent", apart := false }
def FnNameCharactersIsIdempotentSaid : Prop := fnNameCharactersIsIdempotentRow.holds Try.pinned (OpenSpec.ofChange fnNameCharactersIsIdempotentSpec)

/-- ITS FALSE NEIGHBOUR: 'it returns false'. Refute it at one input. -/
def fnNameCharactersIsIdempotentWrong : ChangeSpec := { name := "fnNameCharactersIsIdempotent", fn := fun _ => fun
  | [d] => { results := [.lit (.bool false)], args := [d] }
  | _ => none }
def FnNameCharactersIsIdempotentWrongFalsely : Prop := fnNameCharactersIsIdempotentRow.holds Try.pinned (OpenSpec.ofChange fnNameCharactersIsIdempotentWrong)

end Rows
end Go.Proofs.Qxb6601166a
