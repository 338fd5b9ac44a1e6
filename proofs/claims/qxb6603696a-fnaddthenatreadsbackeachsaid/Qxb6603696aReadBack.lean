import Derived.Test.Qxb6603696aAtAny
import Derived.Test.Qxb6603696aElems
import Derived.Deep.QuietTactic
import Derived.BigQuiet
namespace Go.Proofs.Qxb6603696a
open Go.RowKit

/-- What is read back, field by field. -/
def rB (e : El) : Bool := decide (e.k = 1) && e.bo
def rBits (e : El) : Int := if e.k = 2 then e.bits else 0
def rS (e : El) : ByteArray := if e.k = 3 then e.s else ByteArray.empty
theorem rbk_eq (e : El) : rbk e = .agg #[.int .u8 e.k, .bool (rB e), .int .i32 0, .bool (flagOf e), .int .u64 (rBits e), .string (rS e), .pointer none] := rfl

set_option maxHeartbeats 4000000 in
set_option maxRecDepth 1000000 in
theorem zzAt_any (r b i : Nat) (w : World) (L S : Int) (V : Nat → Value) (X : Nat → List Value) (es : List El) (oth sz : Int) (hA : ArrAt w r V oth sz) (hB : Bld w b L S V X) (hR : Rep V X es) (hi : i < es.length) (hn : es.length ≤ 16384) :
    Calls Try.prog 11 #[.pointer (some ⟨r, 0, none⟩), .int .i64 i] w fun e w' => e = .returned (.tuple #[.int .u8 (es[i]'hi).k, .bool (rB (es[i]'hi)), .int .i32 0, .bool (flagOf (es[i]'hi)), .int .u64 (rBits (es[i]'hi)), .string (rS (es[i]'hi)), .bool false]) ∧ Below w.heap.size w w' := by
  have hat := at_any r b i w L S V X es oth sz hA hB hR hi hn
  rw [rbk_eq] at hat
  generalize (es[i]'hi).k = k at hat ⊢
  generalize rB (es[i]'hi) = B at hat ⊢
  generalize flagOf (es[i]'hi) = F at hat ⊢
  generalize rBits (es[i]'hi) = Y at hat ⊢
  generalize rS (es[i]'hi) = s at hat ⊢
  have HAT := Hid.mk hat
  clear hat hA hB hR
  go_enter Try.func11, Try.ntmps11
  go_wp2_with (go_at_call 19; refine HAT.out.mono ?_; rintro e w' ⟨rfl, hb⟩)
  go_quiet (fail)
  go_wp2
  exact bodyPost_ret (v := .tuple #[.int .u8 k, .bool B, .int .i32 0, .bool F, .int .u64 Y, .string s, .bool false]) (by simp [results, Try.results11, go_sem]) rfl ⟨rfl, below_drewN (hb.alloc hb.size _) _⟩

set_option maxHeartbeats 4000000 in
set_option maxRecDepth 1000000 in
theorem readBack_any (e : Elem8) (w : World) :
    Calls Try.prog 12 #[.agg #[.int .u8 e.k, .bool e.bo, .int .i32 e.nsec, .bool e.isI, .int .u64 e.bits, .string e.s, .bool e.ha, .int .i64 e.ot]] w fun en w' => en = .returned (.tuple #[.int .u8 e.k, .bool (rB e.el), .bool (flagOf e.el), .int .u64 (rBits e.el), .string (rS e.el)]) ∧ Below w.heap.size w w' := by
  obtain ⟨k, bo, nsec, isI, bits, s, ha, ot⟩ := e
  show Calls Try.prog 12 #[.agg #[.int .u8 k, .bool bo, .int .i32 nsec, .bool isI, .int .u64 bits, .string s, .bool ha, .int .i64 ot]] w fun en w' => en = .returned (.tuple #[.int .u8 k, .bool (rB ⟨k, bo, isI, bits, s⟩), .bool (flagOf ⟨k, bo, isI, bits, s⟩), .int .u64 (rBits ⟨k, bo, isI, bits, s⟩), .string (rS ⟨k, bo, isI, bits, s⟩)]) ∧ Below w.heap.size w w'
  by_cases k1 : k = 1
  · have e1 : rB ⟨k, bo, isI, bits, s⟩ = bo := by simp [rB, k1]
    have e2 : flagOf ⟨k, bo, isI, bits, s⟩ = false := by simp [flagOf, k1]
    have e3 : rBits ⟨k, bo, isI, bits, s⟩ = 0 := by simp [rBits, k1]
    have e4 : rS ⟨k, bo, isI, bits, s⟩ = ByteArray.empty := by simp [rS, k1]
    rw [e1, e2, e3, e4]
    clear e1 e2 e3 e4
    subst k1
    go_enter Try.func12, Try.ntmps12
    go_wp2
    go_quiet (fail)
    go_wp2
    exact bodyPost_ret (v := .tuple #[.int .u8 1, .bool bo, .bool false, .int .u64 0, .string ByteArray.empty]) (by simp [results, Try.results12, go_sem]; rfl) rfl ⟨rfl, below_drewN ((Below.refl _ _).alloc (Nat.le_refl _) _) _⟩
  · by_cases k2 : k = 2
    · have e1 : rB ⟨k, bo, isI, bits, s⟩ = false := by simp [rB, k2]
      have e2 : flagOf ⟨k, bo, isI, bits, s⟩ = isI := by simp [flagOf, k2]
      have e3 : rBits ⟨k, bo, isI, bits, s⟩ = bits := by simp [rBits, k2]
      have e4 : rS ⟨k, bo, isI, bits, s⟩ = ByteArray.empty := by simp [rS, k2]
      rw [e1, e2, e3, e4]
      clear e1 e2 e3 e4 k1
      subst k2
      go_enter Try.func12, Try.ntmps12
      go_wp2
      go_quiet (fail)
      go_wp2
      exact bodyPost_ret (v := .tuple #[.int .u8 2, .bool false, .bool isI, .int .u64 bits, .string ByteArray.empty]) (by simp [results, Try.results12, go_sem]; rfl) rfl ⟨rfl, below_drewN ((Below.refl _ _).alloc (Nat.le_refl _) _) _⟩
    · by_cases k3 : k = 3
      · have e1 : rB ⟨k, bo, isI, bits, s⟩ = false := by simp [rB, k3]
        have e2 : flagOf ⟨k, bo, isI, bits, s⟩ = false := by simp [flagOf, k3]
        have e3 : rBits ⟨k, bo, isI, bits, s⟩ = 0 := by simp [rBits, k3]
        have e4 : rS ⟨k, bo, isI, bits, s⟩ = s := by simp [rS, k3]
        rw [e1, e2, e3, e4]
        clear e1 e2 e3 e4 k1 k2
        subst k3
        go_enter Try.func12, Try.ntmps12
        go_wp2
        go_quiet (fail)
        go_wp2
        exact bodyPost_ret (v := .tuple #[.int .u8 3, .bool false, .bool false, .int .u64 0, .string s]) (by simp [results, Try.results12, go_sem]) rfl ⟨rfl, below_drewN ((Below.refl _ _).alloc (Nat.le_refl _) _) _⟩
      · have e1 : rB ⟨k, bo, isI, bits, s⟩ = false := by simp [rB, k1]
        have e2 : flagOf ⟨k, bo, isI, bits, s⟩ = false := by simp [flagOf, k2]
        have e3 : rBits ⟨k, bo, isI, bits, s⟩ = 0 := by simp [rBits, k2]
        have e4 : rS ⟨k, bo, isI, bits, s⟩ = ByteArray.empty := by simp [rS, k3]
        rw [e1, e2, e3, e4]
        have n1 : (k == 1) = false := by simpa using k1
        have n2 : (k == 2) = false := by simpa using k2
        have n3 : (k == 3) = false := by simpa using k3
        clear e1 e2 e3 e4 k1 k2 k3
        go_enter Try.func12, Try.ntmps12
        go_wp2
        exact bodyPost_ret (v := .tuple #[.int .u8 k, .bool false, .bool false, .int .u64 0, .string ByteArray.empty]) (by simp [results, Try.results12, go_sem]; rfl) rfl ⟨rfl, (Below.refl _ _).alloc (Nat.le_refl _) _⟩
end Go.Proofs.Qxb6603696a
