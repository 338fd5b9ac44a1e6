import Derived.Test.Qxb6603696aSlot
namespace Go.Proofs.Qxb6603696a
open Go.RowKit

theorem SlotA.from {w w1 : World} {b : Nat} {L S : Int} {V : Nat → Value} {X : Nat → List Value} {sl il : List Int} {wr : World} (s : Step w b V w1 V) (h : SlotA w1 b L S V X sl il wr) : SlotA w b L S V X sl il wr := by
  obtain ⟨V', X', g, cap, hB, hS, r⟩ := h
  exact ⟨V', X', g, cap, hB, s.trans hS, r⟩

set_option maxHeartbeats 2000000 in
set_option maxRecDepth 1000000 in
theorem addNumber_any (b : Nat) (w : World) (L S : Int) (V : Nat → Value) (X : Nat → List Value) (h : Bld w b L S V X) (hL0 : 0 ≤ L) (hL1 : L ≤ 65536) (sl il : List Int) (hs : X 2 = u64s sl) (hi : X 3 = u64s il)
    (hlen : il.length = (sl.length + 63) / 64) (hn : sl.length ≤ 20000) (bits : Int) (isI : Bool) :
    Calls Try.prog 22 #[.pointer (some ⟨b, 0, none⟩), .agg #[.bool isI, .int .u64 bits]] w fun e w' => e = .returned (.tuple #[]) ∧ SlotA w b L S V X (sl ++ [bits]) (intsAdd il sl.length isI) w' := by
  have HX := Hid.mk (And.intro h (And.intro hs (And.intro hi hlen)))
  clear h hs hi hlen
  go_enter Try.func22, Try.ntmps22
  go_wp2_with (go_at_call 25; refine (addSlot_any b _ L S V X (HX.out.1.alloc _) hL0 hL1 sl il HX.out.2.1 HX.out.2.2.1 HX.out.2.2.2 hn bits isI).mono ?_; rintro e w' ⟨rfl, hA⟩)
  go_end0
  exact ⟨rfl, hA.from (Step.alloc _ _ _ _)⟩

/-- What 'addString' leaves. -/
def StrA (w : World) (b : Nat) (L S : Int) (V : Nat → Value) (X : Nat → List Value) (s : ByteArray) (wr : World) : Prop :=
  ∃ V' X' g cap, Bld wr b L S V' X' ∧ Step w b V wr V' ∧ V' 2 = V 2 ∧ V' 3 = V 3 ∧ V' 5 = V 5 ∧ X' 2 = X 2 ∧ X' 3 = X 3 ∧ X' 5 = X 5 ∧ X' 4 = X 4 ++ [.string s] ∧ V' 4 = .slice (some ⟨g, 0, none⟩) ((X 4).length + 1) cap

set_option maxHeartbeats 2000000 in
set_option maxRecDepth 1000000 in
theorem addString_any (b : Nat) (w : World) (L S : Int) (V : Nat → Value) (X : Nat → List Value) (h : Bld w b L S V X) (hS0 : 0 ≤ S) (hS1 : S ≤ 65536) (hn : (X 4).length ≤ 20000) (s : ByteArray) :
    Calls Try.prog 23 #[.pointer (some ⟨b, 0, none⟩), .string s] w fun e w' => e = .returned (.tuple #[]) ∧ StrA w b L S V X s w' := by
  have HH := Hid.mk h
  obtain ⟨a, cap, e, hnil, hsome⟩ := form h 4 (by decide) (by decide)
  have HE := Hid.mk e
  have HN := Hid.mk hnil
  have HX := Hid.mk hsome
  have c4 := h.cell4
  rw [e] at c4
  obtain ⟨l0, hl0⟩ : ∃ l : Nat, S = l := ⟨S.toNat, by omega⟩
  have c1 := h.cell1
  rw [hl0] at c1
  have hl1 : (l0 : Int) ≤ 65536 := by omega
  have f4 := h.frozen 4
  have hbw := h.lt
  clear h e hnil hsome hl0
  have heq := eqNil41
  go_enter Try.func23, Try.ntmps23
  go_upto_if 8 with (fail)
  go_cut [] (fun wr => ∃ V' g cap, Bld wr b L S V' X ∧ Step w b V wr V' ∧ V' 2 = V 2 ∧ V' 3 = V 3 ∧ V' 5 = V 5 ∧ V' 4 = .slice (some ⟨g, 0, none⟩) (X 4).length cap)
  case first =>
    cases a with
    | none =>
      obtain ⟨hx4, hv4⟩ := HN.out rfl
      have hx0 : (X 4).length = 0 := by rw [hx4]; rfl
      have m4 := make4 HH.out 0 l0 0 l0 rfl rfl (by omega) (by omega)
      have hr4 := m4.1
      have HM := Hid.mk (And.intro (m4.2.1.congr (X' := X) (fun p h1 h2 => by by_cases ep : p = 4; (subst ep; rw [put_same, hx4]; rfl); rw [put_other _ _ _ ep])) m4.2.2)
      clear m4
      go_wp2
      go_meet
      case rel => exact ⟨_, w.heap.size, l0, HM.out.1, HM.out.2, rfl, rfl, rfl, by rw [hx0]; rfl⟩
    | some x =>
      obtain ⟨g, rfl⟩ := HX.out x rfl
      go_wp2
      go_meet
      case rel => exact ⟨V, g, cap, HH.out, Step.refl _ _ _, rfl, rfl, rfl, HE.out⟩
  case rest =>
    obtain ⟨V1, g, cap1, hB, hS, e2, e3, e5, v4⟩ := hcut
    clear HH HE HN HX c4 c1 f4 hbw
    have c4 := hB.cell4
    rw [v4] at c4
    obtain ⟨g', cap', w1, hrun, hc1, hf1, hB3, hS3⟩ := app4 hB (.string s) rfl (by omega)
    rw [v4] at hrun hc1
    have HN := Hid.mk (And.intro hB3 (hS.trans hS3))
    have HV := Hid.mk (And.intro e2 (And.intro e3 e5))
    clear hB hB3 hS hS3 e2 e3 e5 v4
    go_wp2_with (at_builtin; refine wpList_append_run _ (by rfl) _ _ 41 (by rfl) _ _ _ _ hrun (by rfl) (by rfl) ?_)
    go_end0
    exact ⟨rfl, _, _, g', cap', HN.out.1, HN.out.2, HV.out.1, HV.out.2.1, HV.out.2.2, rfl, rfl, rfl, rfl, rfl⟩
end Go.Proofs.Qxb6603696a
