import Derived.Test.Qxb6603696aRep
import Derived.Deep.RegionHeld3
namespace Go.Proofs.Qxb6603696a
open Go.RowKit

set_option maxHeartbeats 2000000 in
set_option maxRecDepth 1000000 in
theorem add_num (b : Nat) (w : World) (L S : Int) (V : Nat → Value) (X : Nat → List Value) (h : Bld w b L S V X) (hL0 : 0 ≤ L) (hL1 : L ≤ 65536) (sl il : List Int) (hs : X 2 = u64s sl) (hi : X 3 = u64s il)
    (hlen : il.length = (sl.length + 63) / 64) (hn : sl.length ≤ 20000) (v5 : V 5 = .slice none 0 0) (v4 : V 4 = .slice none 0 0) (bo isI : Bool) (nsec bits : Int) (s : ByteArray) (q : Option Addr) :
    Calls Try.prog 15 #[.pointer (some ⟨b, 0, none⟩), .agg #[.int .u8 2, .bool bo, .int .i32 nsec, .bool isI, .int .u64 bits, .string s, .pointer q]] w fun e w' => e = .returned (.tuple #[]) ∧ SlotA w b L S V X (sl ++ [bits]) (intsAdd il sl.length isI) w' := by
  have c5 := h.cell5
  have c4 := h.cell4
  rw [v5] at c5
  rw [v4] at c4
  have HX := Hid.mk (And.intro h (And.intro hs (And.intro hi hlen)))
  have hbw := h.lt
  clear h hs hi hlen v4 v5
  have h41 := eqNil41
  have h42 := eqNil42
  go_enter Try.func15, Try.ntmps15
  go_wp2_with (go_at_call 22; refine (addNumber_any b _ L S V X (HX.out.1.alloc _) hL0 hL1 sl il HX.out.2.1 HX.out.2.2.1 HX.out.2.2.2 hn bits isI).mono ?_; rintro e w' ⟨rfl, hA⟩)
  refine bodyPost_ret (results_none rfl _ _ _) rfl ?_
  exact ⟨rfl, hA.from (Step.alloc _ _ _ _)⟩

theorem StrA.from {w w1 : World} {b : Nat} {L S : Int} {V : Nat → Value} {X : Nat → List Value} {s : ByteArray} {wr : World} (st : Step w b V w1 V) (h : StrA w1 b L S V X s wr) : StrA w b L S V X s wr := by
  obtain ⟨V', X', g, cap, hB, hS, r⟩ := h
  exact ⟨V', X', g, cap, hB, st.trans hS, r⟩

set_option maxHeartbeats 2000000 in
set_option maxRecDepth 1000000 in
theorem add_str (b : Nat) (w : World) (L S : Int) (V : Nat → Value) (X : Nat → List Value) (h : Bld w b L S V X) (hS0 : 0 ≤ S) (hS1 : S ≤ 65536) (hn : (X 4).length ≤ 20000)
    (v5 : V 5 = .slice none 0 0) (v2 : V 2 = .slice none 0 0) (bo isI : Bool) (nsec bits : Int) (s : ByteArray) (q : Option Addr) :
    Calls Try.prog 15 #[.pointer (some ⟨b, 0, none⟩), .agg #[.int .u8 3, .bool bo, .int .i32 nsec, .bool isI, .int .u64 bits, .string s, .pointer q]] w fun e w' => e = .returned (.tuple #[]) ∧ StrA w b L S V X s w' := by
  have c5 := h.cell5
  have c4 := h.cell4
  have c2 := h.cell2
  rw [v5] at c5
  rw [v2] at c2
  obtain ⟨a4, cap4, e4, -, -⟩ := form h 4 (by decide) (by decide)
  rw [e4] at c4
  have HX := Hid.mk h
  have hbw := h.lt
  clear h v2 v5 e4
  have h41 := eqNil41
  have h42 := eqNil42
  have h40 := eqNil40
  have hd : ∃ t, a4.isNone = t := ⟨_, rfl⟩
  obtain ⟨t, ht⟩ := hd
  cases t
  all_goals
    go_enter Try.func15, Try.ntmps15
    go_wp2_with (go_at_call 23; refine (addString_any b _ L S V X (HX.out.alloc _) hS0 hS1 hn s).mono ?_; rintro e w' ⟨rfl, hA⟩)
    refine bodyPost_ret (results_none rfl _ _ _) rfl ?_
    exact ⟨rfl, hA.from (Step.alloc _ _ _ _)⟩
end Go.Proofs.Qxb6603696a
