/-
  No cell of these rows narrows 'for every input' (looked for: loops, veiled, ifaces, maps, wideKeys, modest, calm, conditions, laid).
  DERIVED. THE GIVEN ROWS OF THIS SEAT. 4 by the template 'for every input the law returns true; each argument reads behind the call as it read before'; 0 by the template 'total and deterministic' (their statements: Qxb6602991aTotals.lean).
  GIVEN WITH THE SEED: the statements are not yours to turn. If you find one false, say at which input.
  Laid BY PROGRAM, IN A SANDBOX (cutbox-rows.mjs): the forced cells as the released guide's own fill.sh prints them over the translation 80ff4008cf3ec90e… (all of the seat's roots in one cut). By AI agents, Wed Nov 11 2026. No macro, syntax, notation, axiom, sorry.
-/
import Derived.Test.Qxb6602991aChecked
import GoSem.Claim
import GoSem.ClaimJoined
import GoSem.ClaimMapViews
import Derived.JoinedTies
import Derived.KernelRfl
namespace Go.Proofs.Qxb6602991a
/- THE CELL 'sum', in the pinned program and in every row, IS THE sha256 OF THE DUMP (.gsa) THAT Qxb6602991aProg.lean LOADS. Nothing in Lean hashes anything: it is a label: what it is worth is what the hold of that sum in a sandbox is worth. -/
noncomputable def Try.pinned : Pinned := { name := "qxb6602991a", sum := "80ff4008cf3ec90e50d1981dcfe66931c4c94573bb3f218f28d862b56801f10a", checked := Try.checked }
namespace Rows
def none {H : Type} : Left H := { results := [], args := [] }

/-- 'zzlaws_cnistart_b1.FnEscapeShift': WHATEVER THE INPUT: true; the input reads as it did. -/
def fnEscapeShiftSpec : ChangeSpec := { name := "fnEscapeShift", fn := fun _ => fun
  | [d1, d2, d3] => { results := [.lit (.bool true)], args := [d1, d2, d3] }
  | _ => none }
def fnEscapeShiftRow : OpenClaim := { program := "qxb6602991a", sum := "80ff4008cf3ec90e50d1981dcfe66931c4c94573bb3f218f28d862b56801f10a", func := "example.com/weftwire/weftwire/zzlaws_cnistart_b1.FnEscapeShift", spec := "fnEscapeShift", apart := false }
def FnEscapeShiftSaid : Prop := fnEscapeShiftRow.holds Try.pinned (OpenSpec.ofChange fnEscapeShiftSpec)

/-- ITS FALSE NEIGHBOUR: 'it returns false'. Refute it at one input. -/
def fnEscapeShiftWrong : ChangeSpec := { name := "fnEscapeShift", fn := fun _ => fun
  | [d1, d2, d3] => { results := [.lit (.bool false)], args := [d1, d2, d3] }
  | _ => none }
def FnEscapeShiftWrongFalsely : Prop := fnEscapeShiftRow.holds Try.pinned (OpenSpec.ofChange fnEscapeShiftWrong)

/-- 'zzlaws_cnistart_b1.FnEscapeVerdictFinal': WHATEVER THE INPUT: true; the input reads as it did. -/
def fnEscapeVerdictFinalSpec : ChangeSpec := { name := "fnEscapeVerdictFinal", fn := fun _ => fun
  | [d1, d2, d3] => { results := [.lit (.bool true)], args := [d1, d2, d3] }
  | _ => none }
def fnEscapeVerdictFinalRow : OpenClaim := { program := "qxb6602991a", sum := "80ff4008cf3ec90e50d1981dcfe66931c4c94573bb3f218f28d862b56801f10a", func := "example.com/weftwire/weftwire/zzlaws_cnistart_b1.FnEscapeVerdictFinal", spec := "fnEscapeVerdictFinal", apart := false }
def FnEscapeVerdictFinalSaid : Prop := fnEscapeVerdictFinalRow.holds Try.pinned (OpenSpec.ofChange fnEscapeVerdictFinalSpec)

/-- ITS FALSE NEIGHBOUR: 'it returns false'. Refute it at one input. -/
def fnEscapeVerdictFinalWrong : ChangeSpec := { name := "fnEscapeVerdictFinal", fn := fun _ => fun
  | [d1, d2, d3] => { results := [.lit (.bool false)], args := [d1, d2, d3] }
  | _ => none }
def FnEscapeVerdictFinalWrongFalsely : Prop := fnEscapeVerdictFinalRow.holds Try.pinned (OpenSpec.ofChange fnEscapeVerdictFinalWrong)

/-- 'zzlaws_cnistart_b1.FnStrRoundTrip': WHATEVER THE INPUT: true; the input reads as it did. -/
def fnStrRoundTripSpec : ChangeSpec := { name := "fnStrRoundTrip", fn := fun _ => fun
  | [d1, d2, d3] => { results := [.lit (.bool true)], args := [d1, d2, d3] }
  | _ => none }
def fnStrRoundTripRow : OpenClaim := { program := "qxb6602991a", sum := "80ff4008cf3ec90e50d1981dcfe66931c4c94573bb3f218f28d862b56801f10a", func := "example.com/weftwire/weftwire/zzlaws_cnistart_b1.FnStrRoundTrip", spec := "fnStrRoundTrip", apart := false }
def FnStrRoundTripSaid : Prop := fnStrRoundTripRow.holds Try.pinned (OpenSpec.ofChange fnStrRoundTripSpec)

/-- ITS FALSE NEIGHBOUR: 'it returns false'. Refute it at one input. -/
def fnStrRoundTripWrong : ChangeSpec := { name := "fnStrRoundTrip", fn := fun _ => fun
  | [d1, d2, d3] => { results := [.lit (.bool false)], args := [d1, d2, d3] }
  | _ => none }
def FnStrRoundTripWrongFalsely : Prop := fnStrRoundTripRow.holds Try.pinned (OpenSpec.ofChange fnStrRoundTripWrong)

/-- 'zzlaws_cnistart_b1.FnStrVerdictFinal': WHATEVER THE INPUT: true; the input reads as it did. -/
def fnStrVerdictFinalSpec : ChangeSpec := { name := "fnStrVerdictFinal", fn := fun _ => fun
  | [d1, d2, d3] => { results := [.lit (.bool true)], args := [d1, d2, d3] }
  | _ => none }
def fnStrVerdictFinalRow : OpenClaim := { program := "qxb6602991a", sum := "80ff4008cf3ec90e50d1981dcfe66931c4c94573bb3f218f28d862b56801f10a", func := "example.com/weftwire/weftwire/zzlaws_cnistart_b1.FnStrVerdictFinal", spec := "fnStrVerdictFinal", apart := false }
def FnStrVerdictFinalSaid : Prop := fnStrVerdictFinalRow.holds Try.pinned (OpenSpec.ofChange fnStrVerdictFinalSpec)

/-- ITS FALSE NEIGHBOUR: 'it returns false'. Refute it at one input. -/
def fnStrVerdictFinalWrong : ChangeSpec := { name := "fnStrVerdictFinal", fn := fun _ => fun
  | [d1, d2, d3] => { results := [.lit (.bool false)], args := [d1, d2, d3] }
  | _ => none }
def FnStrVerdictFinalWrongFalsely : Prop := fnStrVerdictFinalRow.holds Try.pinned (OpenSpec.ofChange fnStrVerdictFinalWrong)

end Rows
end Go.Proofs.Qxb6602991a
