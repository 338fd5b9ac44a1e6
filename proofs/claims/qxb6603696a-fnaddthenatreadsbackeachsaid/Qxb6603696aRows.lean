/-
  No cell of these rows narrows 'for every input' (looked for: loops, veiled, ifaces, maps, wideKeys, modest, calm, conditions, laid).
  DERIVED. THE GIVEN ROWS OF THIS SEAT. 2 by the template 'for every input the law returns true; each argument reads behind the call as it read before'; 0 by the template 'total and deterministic' (their statements: Qxb6603696aTotals.lean).
  GIVEN WITH THE SEED: the statements are not yours to turn. If you find one false, say at which input.
  Laid BY PROGRAM, IN A SANDBOX (cutbox-rows.mjs): the forced cells as the released guide's own fill.sh prints them over the translation 14ba17118b3b494f… (all of the seat's roots in one cut). By AI agents, Wed Nov 11 2026. No macro, syntax, notation, axiom, sorry.
-/
import Derived.Test.Qxb6603696aChecked
import GoSem.Claim
import GoSem.ClaimJoined
import GoSem.ClaimMapViews
import Derived.JoinedTies
import Derived.KernelRfl
namespace Go.Proofs.Qxb6603696a
/- THE CELL 'sum', in the pinned program and in every row, IS THE sha256 OF THE DUMP (.gsa) THAT Qxb6603696aProg.lean LOADS. Nothing in Lean hashes anything: it is a label: what it is worth is what the hold of that sum in a sandbox is worth. -/
noncomputable def Try.pinned : Pinned := { name := "qxb6603696a", sum := "14ba17118b3b494fc71a63045289099604b39935ea1c072defea2524680bd1ae", checked := Try.checked }
namespace Rows
def none {H : Type} : Left H := { results := [], args := [] }

/-- 'zzlaws_decision_b1.FnAddThenAtReadsBackEach': WHATEVER THE INPUT: true; the input reads as it did. -/
def fnAddThenAtReadsBackEachSpec : ChangeSpec := { name := "fnAddThenAtReadsBackEach", fn := fun _ => fun
  | [d1, d2, d3] => { results := [.lit (.bool true)], args := [d1, d2, d3] }
  | _ => none }
def fnAddThenAtReadsBackEachRow : OpenClaim := { program := "qxb6603696a", sum := "14ba17118b3b494fc71a63045289099604b39935ea1c072defea2524680bd1ae", func := "example.com/terse-verdict/terse-verdict/zzlaws_decision_b1.FnAddThenAtReadsBackEach", spec := "fnAddThenAtReadsBackEach", plainKeys := false, apart := false }
def FnAddThenAtReadsBackEachSaid : Prop := fnAddThenAtReadsBackEachRow.holds Try.pinned (OpenSpec.ofChange fnAddThenAtReadsBackEachSpec)

/-- ITS FALSE NEIGHBOUR: 'it returns false'. Refute it at one input. -/
def fnAddThenAtReadsBackEachWrong : ChangeSpec := { name := "fnAddThenAtReadsBackEach", fn := fun _ => fun
  | [d1, d2, d3] => { results := [.lit (.bool false)], args := [d1, d2, d3] }
  | _ => none }
def FnAddThenAtReadsBackEachWrongFalsely : Prop := fnAddThenAtReadsBackEachRow.holds Try.pinned (OpenSpec.ofChange fnAddThenAtReadsBackEachWrong)

/-- 'zzlaws_decision_b1.FnBuiltArrayTypeOtherAndSize': WHATEVER THE INPUT: true; the input reads as it did. -/
def fnBuiltArrayTypeOtherAndSizeSpec : ChangeSpec := { name := "fnBuiltArrayTypeOtherAndSize", fn := fun _ => fun
  | [d1, d2, d3] => { results := [.lit (.bool true)], args := [d1, d2, d3] }
  | _ => none }
def fnBuiltArrayTypeOtherAndSizeRow : OpenClaim := { program := "qxb6603696a", sum := "14ba17118b3b494fc71a63045289099604b39935ea1c072defea2524680bd1ae", func := "example.com/terse-verdict/terse-verdict/zzlaws_decision_b1.FnBuiltArrayTypeOtherAndSize", spec := "fnBuiltArrayTypeOtherAndSize", plainKeys := false, apart := false }
def FnBuiltArrayTypeOtherAndSizeSaid : Prop := fnBuiltArrayTypeOtherAndSizeRow.holds Try.pinned (OpenSpec.ofChange fnBuiltArrayTypeOtherAndSizeSpec)

/-- ITS FALSE NEIGHBOUR: 'it returns false'. Refute it at one input. -/
def fnBuiltArrayTypeOtherAndSizeWrong : ChangeSpec := { name := "fnBuiltArrayTypeOtherAndSize", fn := fun _ => fun
  | [d1, d2, d3] => { results := [.lit (.bool false)], args := [d1, d2, d3] }
  | _ => none }
def FnBuiltArrayTypeOtherAndSizeWrongFalsely : Prop := fnBuiltArrayTypeOtherAndSizeRow.holds Try.pinned (OpenSpec.ofChange fnBuiltArrayTypeOtherAndSizeWrong)

end Rows
end Go.Proofs.Qxb6603696a
