/-
  No cell of these rows narrows 'for every input' (looked for: loops, veiled, ifaces, maps, wideKeys, modest, calm, conditions, laid).
  DERIVED. THE GIVEN ROWS OF THIS SEAT. 4 by the template 'for every input the law returns true; each argument reads behind the call as it read before'; 0 by the template 'total and deterministic' (their statements: Qxb6602721aTotals.lean).
  GIVEN WITH THE SEED: the statements are not yours to turn. If you find one false, say at which input.
  Laid BY PROGRAM, IN A SANDBOX (cutbox-rows.mjs): the forced cells as the released guide's own fill.sh prints them over the translation bbfc3098458e4573… (all of the seat's roots in one cut). By AI agents, Wed Nov 11 2026. No macro, syntax, notation, axiom, sorry.
-/
import Derived.Test.Qxb6602721aChecked
import GoSem.Claim
import GoSem.ClaimJoined
import GoSem.ClaimMapViews
import Derived.JoinedTies
import Derived.KernelRfl
namespace Go.Proofs.Qxb6602721a
/- THE CELL 'sum', in the pinned program and in every row, IS THE sha256 OF THE DUMP (.gsa) THAT Qxb6602721aProg.lean LOADS. Nothing in Lean hashes anything: it is a label: what it is worth is what the hold of that sum in a sandbox is worth. -/
noncomputable def Try.pinned : Pinned := { name := "qxb6602721a", sum := "bbfc3098458e4573f00c80e438ef203eb5ed48cff08d84e0447d0237a2178169", checked := Try.checked }
namespace Rows
def none {H : Type} : Left H := { results := [], args := [] }

/-- 'zzlaws_pkg_table_b1.FnNewSheetMatchesModel': WHATEVER THE INPUT: true; the input reads as it did. -/
def fnNewSheetMatchesModelSpec : ChangeSpec := { name := "fnNewSheetMatchesModel", fn := fun _ => fun
  | [d1, d2] => { results := [.lit (.bool true)], args := [d1, d2] }
  | _ => none }
def fnNewSheetMatchesModelRow : OpenClaim := { program := "qxb6602721a", sum := "bbfc3098458e4573f00c80e438ef203eb5ed48cff08d84e0447d0237a2178169", func := "example.com/vestline/vestline/zzlaws_pkg_table_b1.FnNewSheetMatchesModel", spec := "fnNewSheetMatchesModel", inPlace := ["internal/abi.NoEscape", "internal/bytealg.MakeNoZero"], apart := false }
def FnNewSheetMatchesModelSaid : Prop := fnNewSheetMatchesModelRow.holds Try.pinned (OpenSpec.ofChange fnNewSheetMatchesModelSpec)

/-- ITS FALSE NEIGHBOUR: 'it returns false'. Refute it at one input. -/
def fnNewSheetMatchesModelWrong : ChangeSpec := { name := "fnNewSheetMatchesModel", fn := fun _ => fun
  | [d1, d2] => { results := [.lit (.bool false)], args := [d1, d2] }
  | _ => none }
def FnNewSheetMatchesModelWrongFalsely : Prop := fnNewSheetMatchesModelRow.holds Try.pinned (OpenSpec.ofChange fnNewSheetMatchesModelWrong)

/-- 'zzlaws_pkg_table_b1.FnNewSheetNamesCountUp': WHATEVER THE INPUT: true; the input reads as it did. -/
def fnNewSheetNamesCountUpSpec : ChangeSpec := { name := "fnNewSheetNamesCountUp", fn := fun _ => fun
  | [d1, d2] => { results := [.lit (.bool true)], args := [d1, d2] }
  | _ => none }
def fnNewSheetNamesCountUpRow : OpenClaim := { program := "qxb6602721a", sum := "bbfc3098458e4573f00c80e438ef203eb5ed48cff08d84e0447d0237a2178169", func := "example.com/vestline/vestline/zzlaws_pkg_table_b1.FnNewSheetNamesCountUp", spec := "fnNewSheetNamesCountUp", inPlace := ["internal/abi.NoEscape", "internal/bytealg.MakeNoZero"], apart := false }
def FnNewSheetNamesCountUpSaid : Prop := fnNewSheetNamesCountUpRow.holds Try.pinned (OpenSpec.ofChange fnNewSheetNamesCountUpSpec)

/-- ITS FALSE NEIGHBOUR: 'it returns false'. Refute it at one input. -/
def fnNewSheetNamesCountUpWrong : ChangeSpec := { name := "fnNewSheetNamesCountUp", fn := fun _ => fun
  | [d1, d2] => { results := [.lit (.bool false)], args := [d1, d2] }
  | _ => none }
def FnNewSheetNamesCountUpWrongFalsely : Prop := fnNewSheetNamesCountUpRow.holds Try.pinned (OpenSpec.ofChange fnNewSheetNamesCountUpWrong)

/-- 'zzlaws_pkg_table_b1.FnWidthMatchesByteTable': WHATEVER THE INPUT: true; the input reads as it did. -/
def fnWidthMatchesByteTableSpec : ChangeSpec := { name := "fnWidthMatchesByteTable", fn := fun _ => fun
  | [d] => { results := [.lit (.bool true)], args := [d] }
  | _ => none }
def fnWidthMatchesByteTableRow : OpenClaim := { program := "qxb6602721a", sum := "bbfc3098458e4573f00c80e438ef203eb5ed48cff08d84e0447d0237a2178169", func := "example.com/vestline/vestline/zzlaws_pkg_table_b1.FnWidthMatchesByteTable", spec := "fnWidthMatchesByteTable", apart := false }
def FnWidthMatchesByteTableSaid : Prop := fnWidthMatchesByteTableRow.holds Try.pinned (OpenSpec.ofChange fnWidthMatchesByteTableSpec)

/-- ITS FALSE NEIGHBOUR: 'it returns false'. Refute it at one input. -/
def fnWidthMatchesByteTableWrong : ChangeSpec := { name := "fnWidthMatchesByteTable", fn := fun _ => fun
  | [d] => { results := [.lit (.bool false)], args := [d] }
  | _ => none }
def FnWidthMatchesByteTableWrongFalsely : Prop := fnWidthMatchesByteTableRow.holds Try.pinned (OpenSpec.ofChange fnWidthMatchesByteTableWrong)

/-- 'zzlaws_pkg_table_b1.FnWidthAddsOverCleanCut': WHATEVER THE INPUT: true; the input reads as it did. -/
def fnWidthAddsOverCleanCutSpec : ChangeSpec := { name := "fnWidthAddsOverCleanCut", fn := fun _ => fun
  | [d1, d2] => { results := [.lit (.bool true)], args := [d1, d2] }
  | _ => none }
def fnWidthAddsOverCleanCutRow : OpenClaim := { program := "qxb6602721a", sum := "bbfc3098458e4573f00c80e438ef203eb5ed48cff08d84e0447d0237a2178169", func := "example.com/vestline/vestline/zzlaws_pkg_table_b1.FnWidthAddsOverCleanCut", spec := "fnWidthAddsOverCleanCut", apart := false }
def FnWidthAddsOverCleanCutSaid : Prop := fnWidthAddsOverCleanCutRow.holds Try.pinned (OpenSpec.ofChange fnWidthAddsOverCleanCutSpec)

/-- ITS FALSE NEIGHBOUR: 'it returns false'. Refute it at one input. -/
def fnWidthAddsOverCleanCutWrong : ChangeSpec := { name := "fnWidthAddsOverCleanCut", fn := fun _ => fun
  | [d1, d2] => { results := [.lit (.bool false)], args := [d1, d2] }
  | _ => none }
def FnWidthAddsOverCleanCutWrongFalsely : Prop := fnWidthAddsOverCleanCutRow.holds Try.pinned (OpenSpec.ofChange fnWidthAddsOverCleanCutWrong)

end Rows
end Go.Proofs.Qxb6602721a
