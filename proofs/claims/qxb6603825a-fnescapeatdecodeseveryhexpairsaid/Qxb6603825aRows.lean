/-
  No cell of these rows narrows 'for every input' (looked for: loops, veiled, ifaces, maps, wideKeys, modest, calm, conditions, laid).
  DERIVED. THE GIVEN ROWS OF THIS SEAT. 5 by the template 'for every input the law returns true; each argument reads behind the call as it read before'; 0 by the template 'total and deterministic' (their statements: Qxb6603825aTotals.lean).
  GIVEN WITH THE SEED: the statements are not yours to turn. If you find one false, say at which input.
  Laid BY PROGRAM, IN A SANDBOX (cutbox-rows.mjs): the forced cells as the released guide's own fill.sh prints them over the translation 40693b70229312af… (all of the seat's roots in one cut). By AI agents, Wed Nov 11 2026. No macro, syntax, notation, axiom, sorry.
-/
import Derived.Test.Qxb6603825aChecked
import GoSem.Claim
import GoSem.ClaimJoined
import GoSem.ClaimMapViews
import Derived.JoinedTies
import Derived.KernelRfl
namespace Go.Proofs.Qxb6603825a
/- THE CELL 'sum', in the pinned program and in every row, IS THE sha256 OF THE DUMP (.gsa) THAT Qxb6603825aProg.lean LOADS. Nothing in Lean hashes anything: it is a label: what it is worth is what the hold of that sum in a sandbox is worth. -/
noncomputable def Try.pinned : Pinned := { name := "qxb6603825a", sum := "40693b70229312af28287fd5be57fd6611191d326f298f597e9c7e7c0068f8ce", checked := Try.checked }
namespace Rows
def none {H : Type} : Left H := { results := [], args := [] }

/-- 'zzlaws_internal_accesslog_b1.FnEscapeAtMatchesTable': WHATEVER THE INPUT: true; the input reads as it did. -/
def fnEscapeAtMatchesTableSpec : ChangeSpec := { name := "fnEscapeAtMatchesTable", fn := fun _ => fun
  | [d] => { results := [.lit (.bool true)], args := [d] }
  | _ => none }
def fnEscapeAtMatchesTableRow : OpenClaim := { program := "qxb6603825a", sum := "40693b70229312af28287fd5be57fd6611191d326f298f597e9c7e7c0068f8ce", func := "example.com/portcullis/portcullis/zzlaws_internal_accesslog_b1.FnEscapeAtMatchesTable", spec := "fnEscapeAtMatchesTable", apart := false }
def FnEscapeAtMatchesTableSaid : Prop := fnEscapeAtMatchesTableRow.holds Try.pinned (OpenSpec.ofChange fnEscapeAtMatchesTableSpec)

/-- ITS FALSE NEIGHBOUR: 'it returns false'. Refute it at one input. -/
def fnEscapeAtMatchesTableWrong : ChangeSpec := { name := "fnEscapeAtMatchesTable", fn := fun _ => fun
  | [d] => { results := [.lit (.bool false)], args := [d] }
  | _ => none }
def FnEscapeAtMatchesTableWrongFalsely : Prop := fnEscapeAtMatchesTableRow.holds Try.pinned (OpenSpec.ofChange fnEscapeAtMatchesTableWrong)

/-- 'zzlaws_internal_accesslog_b1.FnEscapeAtDecodesEveryHexPair': WHATEVER THE INPUT: true; the input reads as it did. -/
def fnEscapeAtDecodesEveryHexPairSpec : ChangeSpec := { name := "fnEscapeAtDecodesEveryHexPair", fn := fun _ => fun
  | [d1, d2, d3, d4] => { results := [.lit (.bool true)], args := [d1, d2, d3, d4] }
  | _ => none }
def fnEscapeAtDecodesEveryHexPairRow : OpenClaim := { program := "qxb6603825a", sum := "40693b70229312af28287fd5be57fd6611191d326f298f597e9c7e7c0068f8ce", func := "example.com/portcullis/portcullis/zzlaws_internal_accesslog_b1.FnEscapeAtDecodesEveryHexPair", spec := "fnEscapeAtDecodesEveryHexPair", apart := false }
def FnEscapeAtDecodesEveryHexPairSaid : Prop := fnEscapeAtDecodesEveryHexPairRow.holds Try.pinned (OpenSpec.ofChange fnEscapeAtDecodesEveryHexPairSpec)

/-- ITS FALSE NEIGHBOUR: 'it returns false'. Refute it at one input. -/
def fnEscapeAtDecodesEveryHexPairWrong : ChangeSpec := { name := "fnEscapeAtDecodesEveryHexPair", fn := fun _ => fun
  | [d1, d2, d3, d4] => { results := [.lit (.bool false)], args := [d1, d2, d3, d4] }
  | _ => none }
def FnEscapeAtDecodesEveryHexPairWrongFalsely : Prop := fnEscapeAtDecodesEveryHexPairRow.holds Try.pinned (OpenSpec.ofChange fnEscapeAtDecodesEveryHexPairWrong)

/-- 'zzlaws_internal_accesslog_b1.FnUnescapeMatchesModel': WHATEVER THE INPUT: true; the input reads as it did. -/
def fnUnescapeMatchesModelSpec : ChangeSpec := { name := "fnUnescapeMatchesModel", fn := fun _ => fun
  | [d] => { results := [.lit (.bool true)], args := [d] }
  | _ => none }
def fnUnescapeMatchesModelRow : OpenClaim := { program := "qxb6603825a", sum := "40693b70229312af28287fd5be57fd6611191d326f298f597e9c7e7c0068f8ce", func := "example.com/portcullis/portcullis/zzlaws_internal_accesslog_b1.FnUnescapeMatchesModel", spec := "fnUnescapeMatchesModel", inPlace := ["internal/abi.NoEscape", "internal/bytealg.MakeNoZero", "internal/bytealg.IndexByteString"], apart := false }
def FnUnescapeMatchesModelSaid : Prop := fnUnescapeMatchesModelRow.holds Try.pinned (OpenSpec.ofChange fnUnescapeMatchesModelSpec)

/-- ITS FALSE NEIGHBOUR: 'it returns false'. Refute it at one input. -/
def fnUnescapeMatchesModelWrong : ChangeSpec := { name := "fnUnescapeMatchesModel", fn := fun _ => fun
  | [d] => { results := [.lit (.bool false)], args := [d] }
  | _ => none }
def FnUnescapeMatchesModelWrongFalsely : Prop := fnUnescapeMatchesModelRow.holds Try.pinned (OpenSpec.ofChange fnUnescapeMatchesModelWrong)

/-- 'zzlaws_internal_accesslog_b1.FnUnescapeUndoesLogEscaping': WHATEVER THE INPUT: true; the input reads as it did. -/
def fnUnescapeUndoesLogEscapingSpec : ChangeSpec := { name := "fnUnescapeUndoesLogEscaping", fn := fun _ => fun
  | [d1, d2, d3] => { results := [.lit (.bool true)], args := [d1, d2, d3] }
  | _ => none }
def fnUnescapeUndoesLogEscapingRow : OpenClaim := { program := "qxb6603825a", sum := "40693b70229312af28287fd5be57fd6611191d326f298f597e9c7e7c0068f8ce", func := "example.com/portcullis/portcullis/zzlaws_internal_accesslog_b1.FnUnescapeUndoesLogEscaping", spec := "fnUnescapeUndoesLogEscaping", inPlace := ["internal/abi.NoEscape", "internal/bytealg.MakeNoZero", "internal/bytealg.IndexByteString"], apart := false }
def FnUnescapeUndoesLogEscapingSaid : Prop := fnUnescapeUndoesLogEscapingRow.holds Try.pinned (OpenSpec.ofChange fnUnescapeUndoesLogEscapingSpec)

/-- ITS FALSE NEIGHBOUR: 'it returns false'. Refute it at one input. -/
def fnUnescapeUndoesLogEscapingWrong : ChangeSpec := { name := "fnUnescapeUndoesLogEscaping", fn := fun _ => fun
  | [d1, d2, d3] => { results := [.lit (.bool false)], args := [d1, d2, d3] }
  | _ => none }
def FnUnescapeUndoesLogEscapingWrongFalsely : Prop := fnUnescapeUndoesLogEscapingRow.holds Try.pinned (OpenSpec.ofChange fnUnescapeUndoesLogEscapingWrong)

/-- 'zzlaws_internal_accesslog_b1.FnUnescapeLengthBounds': WHATEVER THE INPUT: true; the input reads as it did. -/
def fnUnescapeLengthBoundsSpec : ChangeSpec := { name := "fnUnescapeLengthBounds", fn := fun _ => fun
  | [d] => { results := [.lit (.bool true)], args := [d] }
  | _ => none }
def fnUnescapeLengthBoundsRow : OpenClaim := { program := "qxb6603825a", sum := "40693b70229312af28287fd5be57fd6611191d326f298f597e9c7e7c0068f8ce", func := "example.com/portcullis/portcullis/zzlaws_internal_accesslog_b1.FnUnescapeLengthBounds", spec := "fnUnescapeLengthBounds", inPlace := ["internal/abi.NoEscape", "internal/bytealg.MakeNoZero", "internal/bytealg.IndexByteString"], apart := false }
def FnUnescapeLengthBoundsSaid : Prop := fnUnescapeLengthBoundsRow.holds Try.pinned (OpenSpec.ofChange fnUnescapeLengthBoundsSpec)

/-- ITS FALSE NEIGHBOUR: 'it returns false'. Refute it at one input. -/
def fnUnescapeLengthBoundsWrong : ChangeSpec := { name := "fnUnescapeLengthBounds", fn := fun _ => fun
  | [d] => { results := [.lit (.bool false)], args := [d] }
  | _ => none }
def FnUnescapeLengthBoundsWrongFalsely : Prop := fnUnescapeLengthBoundsRow.holds Try.pinned (OpenSpec.ofChange fnUnescapeLengthBoundsWrong)

end Rows
end Go.Proofs.Qxb6603825a
