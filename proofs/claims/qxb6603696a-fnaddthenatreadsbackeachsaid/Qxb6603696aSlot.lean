import Derived.Test.Qxb6603696aApp
import Derived.Deep.DeepCutAuto
import Derived.BigRegion
namespace Go.Proofs.Qxb6603696a
open Go.RowKit

def u64s (l : List Int) : List Value := l.map (Value.int .u64)

/-- The word y with bit m set, as the model reckons it. -/
def orBit (y : Int) (m : Nat) : Int := Go.bits BinOp.or IntKind.u64 y (IntKind.u64.wrap (2 ^ m))

/-- The words of bits with room for bit n. -/
def intsRoom (il : List Int) (n : Nat) : List Int := if n % 64 = 0 then il ++ [0] else il

/-- .. and bit n set where the number is an integer. -/
def intsAdd (il : List Int) (n : Nat) (isI : Bool) : List Int :=
  if isI then (intsRoom il n).set (n / 64) (orBit ((intsRoom il n).getD (n / 64) 0) (n % 64)) else intsRoom il n

/-- The state behind the first 'if' of addSlot: the slots are no nil slice. -/
def SlotA (w : World) (b : Nat) (L S : Int) (V : Nat → Value) (X : Nat → List Value) (sl il : List Int) (wr : World) : Prop :=
  ∃ V' X' g cap, Bld wr b L S V' X' ∧ Step w b V wr V' ∧ V' 4 = V 4 ∧ V' 5 = V 5 ∧ X' 4 = X 4 ∧ X' 5 = X 5 ∧ X' 2 = u64s sl ∧ X' 3 = u64s il ∧ V' 2 = .slice (some ⟨g, 0, none⟩) sl.length cap

theorem own_nil {w : World} {b : Nat} {L S : Int} {V : Nat → Value} {X : Nat → List Value} (h : Bld w b L S V X) {p : Nat} (h1 : 2 ≤ p) (h2 : p < 6) : (V p = .slice none 0 0 ∧ X p = []) ∨ ∃ g cap, V p = .slice (some ⟨g, 0, none⟩) (X p).length cap := by
  have ho := h.own p h1 h2
  rcases ho.2 with ⟨e, hn⟩ | ⟨g', cap', cur, e, _⟩
  · exact Or.inl ⟨e, List.eq_nil_of_length_eq_zero hn⟩
  · exact Or.inr ⟨g', cap', e⟩

theorem Hid.mk {p : Prop} (h : p) : Hid p := h

/-- What a field's value looks like: one form for nil and any other. -/
theorem form {w : World} {b : Nat} {L S : Int} {V : Nat → Value} {X : Nat → List Value} (h : Bld w b L S V X) (p : Nat) (h1 : 2 ≤ p) (h2 : p < 6) :
    ∃ a cap, V p = .slice a (X p).length cap ∧ (a = none → X p = [] ∧ V p = .slice none 0 0) ∧ (∀ x, a = some x → ∃ g, x = ⟨g, 0, none⟩) := by
  rcases own_nil h h1 h2 with ⟨e, ex⟩ | ⟨g, cap, e⟩
  · exact ⟨none, 0, by rw [e, ex]; rfl, fun _ => ⟨ex, e⟩, fun x hx => (by cases hx)⟩
  · exact ⟨some ⟨g, 0, none⟩, cap, e, fun h => (by cases h), fun x hx => ⟨g, (by cases hx; rfl)⟩⟩

theorem eqNil40 (w : World) (a : Option Addr) (n c : Nat) : (binOp .eql 40 (.slice a n c) (.slice none 0 0)).run Try.prog w = .ok (.bool a.isNone) w := Lib.run_eql_slice_nil w 40 27 a n c 0 0 und40
theorem eqNil41 (w : World) (a : Option Addr) (n c : Nat) : (binOp .eql 41 (.slice a n c) (.slice none 0 0)).run Try.prog w = .ok (.bool a.isNone) w := Lib.run_eql_slice_nil w 41 9 a n c 0 0 und41
theorem eqNil42 (w : World) (a : Option Addr) (n c : Nat) : (binOp .eql 42 (.slice a n c) (.slice none 0 0)).run Try.prog w = .ok (.bool a.isNone) w := Lib.run_eql_slice_nil w 42 46 a n c 0 0 und42

set_option maxHeartbeats 2000000 in
set_option maxRecDepth 1000000 in
theorem addSlot_any (b : Nat) (w : World) (L S : Int) (V : Nat → Value) (X : Nat → List Value) (h : Bld w b L S V X) (hL0 : 0 ≤ L) (hL1 : L ≤ 65536) (sl il : List Int) (hs : X 2 = u64s sl) (hi : X 3 = u64s il)
    (hlen : il.length = (sl.length + 63) / 64) (hn : sl.length ≤ 20000) (bits : Int) (isI : Bool) :
    Calls Try.prog 25 #[.pointer (some ⟨b, 0, none⟩), .int .u64 bits, .bool isI] w fun e w' => e = .returned (.tuple #[]) ∧ SlotA w b L S V X (sl ++ [bits]) (intsAdd il sl.length isI) w' := by
  have HH : Hid (Bld w b L S V X) := h
  obtain ⟨a, cap, e, hnil, hsome⟩ := form h 2 (by decide) (by decide)
  have HS : Hid (X 2 = u64s sl ∧ X 3 = u64s il ∧ il.length = (sl.length + 63) / 64) := ⟨hs, hi, hlen⟩
  have hsl : (X 2).length = sl.length := by rw [hs]; simp [u64s]
  have HE : Hid (V 2 = .slice a (X 2).length cap) := e
  have HN : Hid (a = none → X 2 = [] ∧ V 2 = .slice none 0 0) := hnil
  have HX : Hid (∀ x, a = some x → ∃ g, x = ⟨g, 0, none⟩) := hsome
  have c2 := h.cell2
  rw [e, hsl] at c2
  obtain ⟨l0, hl0⟩ : ∃ l : Nat, L = l := ⟨L.toNat, by omega⟩
  have c0 := h.cell0
  rw [hl0] at c0
  have HL : Hid (L = l0) := hl0
  have hl1 : (l0 : Int) ≤ 65536 := by omega
  have f2 := h.frozen 2
  have f3 := h.frozen 3
  have hbw := h.lt
  clear h hs hi hlen e hnil hsome hl0
  have heq := eqNil40
  go_enter Try.func25, Try.ntmps25
  go_upto_if 11 with (fail)
  go_cut [] (fun wr => SlotA w b L S V X sl il wr)
  case first =>
    cases a with
    | none =>
      obtain ⟨hx2, hv2⟩ := HN.out rfl
      have hs0 : sl = [] := by
        have := HS.out.1; rw [hx2] at this; exact (List.map_eq_nil_iff.1 this.symm)
      subst hs0
      have m2 := make2 HH.out 0 l0 0 l0 rfl rfl (by omega) (by omega)
      have hr2 := m2.1
      have HM := Hid.mk m2.2
      clear m2
      go_upto_region 1 with (fail)
      go_cut [] (fun wr => ∃ V' X' g cap, Bld wr b L S V' X' ∧ Step w b V wr V' ∧ V' 4 = V 4 ∧ V' 5 = V 5 ∧ X' 4 = X 4 ∧ X' 5 = X 5 ∧ X' 2 = [] ∧ V' 2 = .slice (some ⟨g, 0, none⟩) 0 cap)
      case first =>
        go_wp2
        go_meet
        case rel => exact ⟨_, _, _, _, HM.out.1, HM.out.2, rfl, rfl, rfl, rfl, rfl, rfl⟩
      case rest =>
        obtain ⟨V1, X1, g, cap1, hB, hS, e4, e5, x4, x5, x2, v2⟩ := hcut
        clear HM hr2 c0 f2 f3 c2 hbw
        have c0 := hB.cell0
        rw [HL.out] at c0
        have c3 := hB.cell3
        have f3 := hB.frozen 3
        have hbw := hB.lt
        have m3 := make3 hB 0 ((l0 + 63) / 64) 0 (((l0 : Int) + 63) / 64) rfl (by omega) (by omega) (by omega)
        have hr3 := m3.1
        have HM := Hid.mk (And.intro m3.2.1 (hS.trans m3.2.2))
        have HV := Hid.mk (And.intro e4 (And.intro e5 (And.intro x4 (And.intro x5 (And.intro x2 v2)))))
        obtain ⟨a3, cap3, e3, -, -⟩ := form hB 3 (by decide) (by decide)
        rw [e3] at c3
        clear m3 e4 e5 x4 x5 x2 v2 hB hS e3
        go_wp2
        go_meet
        case rel =>
          obtain ⟨e4, e5, x4, x5, x2, v2⟩ := HV.out
          have hil : il = [] := by have := HS.out.2.2; simpa using this
          exact ⟨_, _, g, cap1, HM.out.1, HM.out.2, e4, e5, x4, x5, x2, by rw [hil]; rfl, v2⟩
    | some x =>
      obtain ⟨g, rfl⟩ := HX.out x rfl
      go_wp2
      go_meet
      case rel => exact ⟨V, X, g, cap, HH.out, Step.refl _ _ _, rfl, rfl, rfl, rfl, HS.out.1, HS.out.2.1, by rw [HE.out, hsl]⟩
  case rest =>
    obtain ⟨V1, X1, g, cap1, hB, hS, e4, e5, x4, x5, x2, x3, v2⟩ := hcut
    clear HH HE HN HX c2 c0 f2 f3 hbw
    have c2 := hB.cell2
    rw [v2] at c2
    have HB := Hid.mk hB
    have HV := Hid.mk (And.intro e4 (And.intro e5 (And.intro x4 (And.intro x5 (And.intro x2 (And.intro x3 (And.intro v2 hS)))))))
    clear e4 e5 x4 x5 x2 x3 v2 hS
    go_upto_if 37 with (fail)
    go_cut [] (fun wr => ∃ V' X' g cap, Bld wr b L S V' X' ∧ Step w b V wr V' ∧ V' 4 = V 4 ∧ V' 5 = V 5 ∧ X' 4 = X 4 ∧ X' 5 = X 5 ∧ X' 2 = u64s sl ∧ X' 3 = u64s (intsRoom il sl.length) ∧ V' 2 = .slice (some ⟨g, 0, none⟩) sl.length cap)
    case first =>
      by_cases hm : sl.length % 64 = 0
      · have hm' : (((sl.length : Int) % 64) == 0) = true := by simp; omega
        have c3 := hB.cell3
        obtain ⟨a3, cap3, e3, -, -⟩ := form hB 3 (by decide) (by decide)
        rw [e3] at c3
        obtain ⟨g', cap', w1, hrun, hc1, hf1, hB1, hS1⟩ := app3 hB (.int .u64 0) rfl (by rw [HV.out.2.2.2.2.2.1]; simp [u64s]; have := HS.out.2.2; omega)
        rw [e3] at hrun hc1
        have HN := Hid.mk (And.intro hB1 hS1)
        have HE := Hid.mk e3
        clear hB hB1 hS1 e3
        go_wp2_with (at_builtin; refine wpList_append_run _ (by rfl) _ _ 40 (by rfl) _ _ _ _ hrun (by rfl) (by rfl) ?_)
        go_meet
        case rel =>
          obtain ⟨e4, e5, x4, x5, x2, x3, v2, hS⟩ := HV.out
          exact ⟨_, _, g, cap1, HN.out.1, hS.trans HN.out.2, e4, e5, x4, x5, x2, by unfold intsRoom; rw [if_pos hm, put_same, x3]; simp [u64s], v2⟩
      · have hm' : (((sl.length : Int) % 64) == 0) = false := by simp; omega
        go_wp2
        go_meet
        case rel =>
          obtain ⟨e4, e5, x4, x5, x2, x3, v2, hS⟩ := HV.out
          exact ⟨V1, X1, g, cap1, HB.out, hS, e4, e5, x4, x5, x2, by unfold intsRoom; rw [if_neg hm]; exact x3, v2⟩
    case rest =>
      obtain ⟨V2, X2, g2, cap2, hB2, hS2, e4, e5, x4, x5, x2, x3, v2⟩ := hcut
      clear HB HV c2 hB
      have hl2 : (X2 2).length = sl.length := by rw [x2]; simp [u64s]
      have c2 := hB2.cell2
      rw [v2] at c2
      obtain ⟨g', cap', w1, hrun, hc1, hf1, hB3, hS3⟩ := app2 hB2 (.int .u64 bits) rfl (by omega)
      rw [v2] at hrun hc1
      rw [hl2] at hrun hB3 hS3
      have HN := Hid.mk (And.intro hB3 (hS2.trans hS3))
      have HV := Hid.mk (And.intro e4 (And.intro e5 (And.intro x4 (And.intro x5 (And.intro x2 (And.intro x3 v2))))))
      clear hB2 hB3 hS2 hS3 e4 e5 x4 x5 x2 x3 v2
      go_upto_region 6 with (fail)
      go_cut [] (fun wr => ∃ V' X' g cap, Bld wr b L S V' X' ∧ Step w b V wr V' ∧ V' 4 = V 4 ∧ V' 5 = V 5 ∧ X' 4 = X 4 ∧ X' 5 = X 5 ∧ X' 2 = u64s (sl ++ [bits]) ∧ X' 3 = u64s (intsRoom il sl.length) ∧ V' 2 = .slice (some ⟨g, 0, none⟩) (sl.length + 1) cap)
      case first =>
        go_wp2_with (at_builtin; refine wpList_append_run _ (by rfl) _ _ 40 (by rfl) _ _ _ _ hrun (by rfl) (by rfl) ?_)
        go_meet
        case rel =>
          obtain ⟨e4, e5, x4, x5, x2, x3, v2⟩ := HV.out
          exact ⟨_, _, g', cap', HN.out.1, HN.out.2, e4, e5, x4, x5, by rw [put_same, x2]; simp [u64s], x3, rfl⟩
      case rest =>
        obtain ⟨V3, X3, g3, cap3, hB3, hS3, e4, e5, x4, x5, x2, x3, v2⟩ := hcut
        clear HN HV hrun hc1 hf1 c2
        cases isI with
        | false =>
          go_wp2
          go_end0
          exact ⟨rfl, V3, X3, g3, cap3, hB3, hS3, e4, e5, x4, x5, x2, by rw [x3]; rfl, by rw [v2]; simp⟩
        | true =>
          have hil : (intsRoom il sl.length).length = sl.length / 64 + 1 := by
            have := HS.out.2.2
            unfold intsRoom
            split
            · simp; omega
            · omega
          obtain ⟨il1, hil1⟩ : ∃ il1, il1 = (intsRoom il sl.length) := ⟨_, rfl⟩
          rw [← hil1] at hil x3
          have HI := Hid.mk hil1
          rcases own_nil hB3 (p := 3) (by decide) (by decide) with ⟨_, ex⟩ | ⟨g4, cap4, v3⟩
          · rw [ex] at x3
            have : (u64s il1).length = 0 := by rw [← x3]; rfl
            simp [u64s] at this; rw [this] at hil; simp at hil
          · have hl3 : (X3 3).length = sl.length / 64 + 1 := by rw [x3]; simp [u64s, hil]
            rw [hl3] at v3
            obtain ⟨hn3, hcell, hfz, -, -, -⟩ := hB3.elem (by decide) (by decide) v3
            have c3 := hB3.cell3
            rw [v3] at c3
            have hx := hcell (sl.length / 64) (.int .u64 (il1.getD (sl.length / 64) 0)) (by rw [x3]; simp [u64s, List.getD, hil])
            have hf := hfz (sl.length / 64)
            obtain ⟨y, hy⟩ : ∃ y, y = il1.getD (sl.length / 64) 0 := ⟨_, rfl⟩
            rw [← hy] at hx
            have HN := Hid.mk (And.intro hB3 hS3)
            have HV := Hid.mk (And.intro e4 (And.intro e5 (And.intro x4 (And.intro x5 (And.intro x2 (And.intro x3 (And.intro v2 (And.intro v3 hy))))))))
            clear hB3 hS3 e4 e5 x4 x5 x2 x3 v2 v3 hcell hfz hy hil1 hil hl3 hn3
            have hq0 : (0 : Int) ≤ (sl.length : Int) / 64 := by omega
            have hq1 : (sl.length : Int) / 64 < ((sl.length / 64 + 1 : Nat) : Int) := by omega
            have hqn : ((sl.length : Int) / 64).toNat = sl.length / 64 := by omega
            go_wp2
            go_region
            go_wp2
            go_end0
            obtain ⟨e4, e5, x4, x5, x2, x3, v2, v3, hy⟩ := HV.out
            have hst := HN.out.1.stored (by decide) (by decide) v3 (sl.length / 64) (.int .u64 (orBit y (sl.length % 64)))
            refine ⟨rfl, V3, _, g3, cap3, hst.1.drew, (HN.out.2.trans hst.2).drew, e4, e5, x4, x5, x2, ?_, by rw [v2]; simp⟩
            rw [put_same, x3]
            unfold intsAdd u64s
            rw [if_pos rfl, ← HI.out, ← hy, List.map_set]
end Go.Proofs.Qxb6603696a
