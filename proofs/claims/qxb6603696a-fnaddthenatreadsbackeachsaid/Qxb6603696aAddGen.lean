import Derived.Test.Qxb6603696aAdd
import Derived.Deep.RegionLaw
namespace Go.Proofs.Qxb6603696a
open Go.RowKit

/-- The form with kinds. -/
def Rep3 (V : Nat → Value) (X : Nat → List Value) (es : List El) : Prop :=
  X 5 = u8s (kindsOf es) ∧ X 2 = u64s (slotsOf es 0) ∧ X 3 = u64s (intsOf es) ∧ X 4 = strV es ∧ (∃ g cap, V 5 = .slice (some ⟨g, 0, none⟩) es.length cap) ∧ ∃ g cap, V 2 = .slice (some ⟨g, 0, none⟩) es.length cap

/-- The ways by which 'add' comes to its second half. -/
def Mode (V : Nat → Value) (X : Nat → List Value) (es : List El) (k : Int) : Prop :=
  Rep3 V X es ∨
  (V 5 = .slice none 0 0 ∧ (∃ g cap, V 2 = .slice (some ⟨g, 0, none⟩) es.length cap) ∧ X 2 = u64s (slotsOf es 0) ∧ X 3 = u64s (intsOf es) ∧ X 4 = strV es ∧ kindsOf es = List.replicate es.length 2 ∧ k ≠ 2) ∨
  (V 5 = .slice none 0 0 ∧ V 2 = .slice none 0 0 ∧ X 4 = strV es ∧ (X 4).length = es.length ∧ slotsOf es 0 = rng es.length ∧ intsOf es = List.replicate ((es.length + 63) / 64) 0 ∧ kindsOf es = List.replicate es.length 3 ∧ k ≠ 3 ∧ (V 4 = .slice none 0 0 → k ≠ 2))

/-- The state of the second half: the builder in its form with kinds; the box. -/
def FullB (w : World) (b : Nat) (L S : Int) (V : Nat → Value) (es : List El) (hx : Nat) (o : Obj) (wr : World) : Prop :=
  ∃ V' X', Bld wr b L S V' X' ∧ Step w b V wr V' ∧ Rep3 V' X' es ∧ wr.heap[hx]? = some o ∧ hx ≠ b ∧ ∀ p, 2 ≤ p → p < 6 → (V' p).ownBlock ≠ some hx

theorem step_box {w wr : World} {b : Nat} {L S : Int} {V V' : Nat → Value} {X : Nat → List Value} {o : Obj} (h : Bld w b L S V X) (hs : Step (w.alloc o) b V wr V') :
    wr.heap[w.heap.size]? = some o ∧ w.heap.size ≠ b ∧ ∀ p, 2 ≤ p → p < 6 → (V' p).ownBlock ≠ some w.heap.size := by
  have hb := h.lt
  have hno : ∀ p, 2 ≤ p → p < 6 → (V p).ownBlock ≠ some w.heap.size := fun p h1 h2 e => by have := (h.base h1 h2 e).2; omega
  refine ⟨?_, by omega, fun p h1 h2 e => ?_⟩
  · rw [hs.block w.heap.size (by simp) (by omega) hno]
    exact heap_alloc_new w o
  · rcases hs.fresh p _ h1 h2 e with a | a
    · exact hno p h1 h2 a
    · simp at a; omega

theorem rep_slot {w wc w' : World} {b g' cap' : Nat} {L S : Int} {V V2 : Nat → Value} {X2 : Nat → List Value} {es : List El} {x : Int} {i : Bool}
    (hA : SlotA wc b L S V2 X2 (slotsOf es 0 ++ [x]) (intsAdd (intsOf es) (slotsOf es 0).length i) w') (hS : Step w b V wc V2) (e : El) (x5 : X2 5 = u8s (kindsOf es ++ [e.k])) (x4 : X2 4 = strV es)
    (v5 : V2 5 = .slice (some ⟨g', 0, none⟩) (es.length + 1) cap') (hx : slotOf e (nstr es) = x) (hi : (decide (e.k = 2) && e.isI) = i) (hne : e.k ≠ 3) :
    ∃ V' X', Bld w' b L S V' X' ∧ Step w b V w' V' ∧ Rep3 V' X' (es ++ [e]) := by
  obtain ⟨V', X', g, cap, hB, hS', r4, r5, rx4, rx5, rx2, rx3, rv2⟩ := hA
  refine ⟨V', X', hB, hS.trans hS', ?_, ?_, ?_, ?_, ⟨g', cap', by rw [r5, v5]; simp⟩, ⟨g, cap, by rw [rv2]; simp [slotsOf_len]⟩⟩
  · rw [rx5, x5]; simp [kindsOf]
  · rw [rx2, slotsOf_snoc, ← hx]; simp
  · rw [rx3, intsOf_snoc, slotsOf_len, hi]
  · rw [rx4, x4, strV_snoc_other es e hne]

theorem rep_str {w wc w1 w' : World} {b g' cap' : Nat} {L S : Int} {V V2 V3 : Nat → Value} {X2 X3 : Nat → List Value} {es : List El} {g cap : Nat}
    (hB3 : Step wc b V2 w1 V3) (r5 : V3 5 = V2 5) (rx4 : X3 4 = X2 4) (rx5 : X3 5 = X2 5) (e : El) (rx2 : X3 2 = u64s (slotsOf es 0 ++ [(nstr es : Int)])) (rx3 : X3 3 = u64s (intsAdd (intsOf es) (slotsOf es 0).length false))
    (rv2 : V3 2 = .slice (some ⟨g, 0, none⟩) (slotsOf es 0 ++ [(nstr es : Int)]).length cap)
    (hA : StrA w1 b L S V3 X3 e.s w') (hS : Step w b V wc V2) (x5 : X2 5 = u8s (kindsOf es ++ [e.k])) (x4 : X2 4 = strV es)
    (v5 : V2 5 = .slice (some ⟨g', 0, none⟩) (es.length + 1) cap') (hk : e.k = 3) :
    ∃ V' X', Bld w' b L S V' X' ∧ Step w b V w' V' ∧ Rep3 V' X' (es ++ [e]) := by
  obtain ⟨V', X', g4, cap4, hB, hS', s2, s3, s5, sx2, sx3, sx5, sx4, sv4⟩ := hA
  refine ⟨V', X', hB, (hS.trans hB3).trans hS', ?_, ?_, ?_, ?_, ⟨g', cap', by rw [s5, r5, v5]; simp⟩, ⟨g, cap, by rw [s2, rv2]; simp [slotsOf_len]⟩⟩
  · rw [sx5, rx5, x5]; simp [kindsOf]
  · rw [sx2, rx2, slotsOf_snoc]; simp [slotOf, hk]
  · rw [sx3, rx3, intsOf_snoc, slotsOf_len, hk]; simp
  · rw [sx4, rx4, x4, strV_snoc_str es e hk]

theorem none_of {a : Option Addr} {n c n' c' : Nat} (h : Value.slice a n c = .slice none n' c') : a.isNone = true := by
  injection h with h1; rw [h1]; rfl
theorem some_of {a : Option Addr} {x : Addr} {n c n' c' : Nat} (h : Value.slice a n c = .slice (some x) n' c') : a.isNone = false := by
  injection h with h1; rw [h1]; rfl
theorem none_eq {a : Option Addr} {n c n' c' : Nat} (h : Value.slice a n c = .slice none n' c') : a = none := by
  injection h with h1
theorem some_eq {a : Option Addr} {x : Addr} {n c n' c' : Nat} (h : Value.slice a n c = .slice (some x) n' c') : ∃ x, a = some x := by
  injection h with h1; exact ⟨x, h1⟩
theorem neq_beq {a b : Int} (h : a ≠ b) : (a == b) = false := by simpa using h

set_option maxHeartbeats 4000000 in
set_option maxRecDepth 1000000 in
theorem add_gen (b : Nat) (w : World) (L S : Int) (V : Nat → Value) (X : Nat → List Value) (h : Bld w b L S V X) (hL0 : 0 ≤ L) (hL1 : L ≤ 65536) (hS0 : 0 ≤ S) (hS1 : S ≤ 65536) (es : List El) (hn : es.length ≤ 16384)
    (k : Int) (hm : Mode V X es k) (bo isI : Bool) (nsec bits : Int) (s : ByteArray) (q : Option Addr) :
    Calls Try.prog 15 #[.pointer (some ⟨b, 0, none⟩), .agg #[.int .u8 k, .bool bo, .int .i32 nsec, .bool isI, .int .u64 bits, .string s, .pointer q]] w fun e w' => e = .returned (.tuple #[]) ∧
      ∃ V' X', Bld w' b L S V' X' ∧ Step w b V w' V' ∧ Rep3 V' X' (es ++ [⟨k, bo, isI, bits, s⟩]) := by
  obtain ⟨a2, cap2, e2, n2, -⟩ := form h 2 (by decide) (by decide)
  obtain ⟨a4, cap4, e4, n4, -⟩ := form h 4 (by decide) (by decide)
  obtain ⟨a5, cap5, e5, n5, -⟩ := form h 5 (by decide) (by decide)
  have c2 := h.cell2
  have c4 := h.cell4
  have c5 := h.cell5
  rw [e2] at c2
  rw [e4] at c4
  rw [e5] at c5
  have HH := Hid.mk h
  have HM := Hid.mk hm
  have T1 : Hid (a5.isNone = false ∨ a4.isNone = false ∨ (k == 2) = false) := by
    rcases hm with m | m | m
    · obtain ⟨-, -, -, -, ⟨g, cap, v5⟩, -⟩ := m
      exact Or.inl (some_of (e5.symm.trans v5))
    · exact Or.inr (Or.inr (neq_beq m.2.2.2.2.2.2))
    · cases a4 with
      | none => exact Or.inr (Or.inr (neq_beq (m.2.2.2.2.2.2.2.2 (n4 rfl).2)))
      | some x => exact Or.inr (Or.inl rfl)
  have T2 : Hid (a5.isNone = false ∨ a2.isNone = false ∨ (k == 3) = false) := by
    rcases hm with m | m | m
    · obtain ⟨-, -, -, -, ⟨g, cap, v5⟩, -⟩ := m
      exact Or.inl (some_of (e5.symm.trans v5))
    · obtain ⟨-, ⟨g, cap, v2⟩, -⟩ := m
      exact Or.inr (Or.inl (some_of (e2.symm.trans v2)))
    · exact Or.inr (Or.inr (neq_beq m.2.2.2.2.2.2.2.1))
  have HV5 := Hid.mk e5
  have hbw := h.lt
  clear h hm e2 e4 e5 n2 n4 n5
  have h41 := eqNil41
  have h42 := eqNil42
  have h40 := eqNil40
  go_enter Try.func15, Try.ntmps15
  go_upto_region 1 with (fail)
  go_cut [21] (fun t wr => t = .bool false ∧ wr = w.alloc (.cells #[.int .u8 k, .bool bo, .int .i32 nsec, .bool isI, .int .u64 bits, .string s, .pointer q] 50))
  case first =>
    cases h5 : a5.isNone with
    | false => 
      go_wp2
      go_meet
      case rel => exact ⟨rfl, rfl⟩
    | true =>
      cases h4 : a4.isNone with
      | false =>
        go_wp2
        go_meet
        case rel => exact ⟨rfl, rfl⟩
      | true =>
        have hk2 : (k == 2) = false := by have := T1.out; simpa [h5, h4] using this
        go_wp2
        go_meet
        case rel => exact ⟨rfl, rfl⟩
  case rest =>
    obtain ⟨rfl, rfl⟩ := hcut
    go_upto_region 3 with (fail)
    go_cut [42] (fun t wr => t = .bool false ∧ wr = w.alloc (.cells #[.int .u8 k, .bool bo, .int .i32 nsec, .bool isI, .int .u64 bits, .string s, .pointer q] 50))
    case first =>
      cases h5 : a5.isNone with
      | false =>
        go_wp2
        go_meet
        case rel => exact ⟨rfl, rfl⟩
      | true =>
        cases h2 : a2.isNone with
        | false =>
          go_wp2
          go_meet
          case rel => exact ⟨rfl, rfl⟩
        | true =>
          have hk3 : (k == 3) = false := by have := T2.out; simpa [h5, h2] using this
          go_wp2
          go_meet
          case rel => exact ⟨rfl, rfl⟩
    case rest =>
      obtain ⟨rfl, rfl⟩ := hcut
      go_upto_if 51 with (fail)
      go_cut [] (fun wr => FullB w b L S V es w.heap.size (.cells #[.int .u8 k, .bool bo, .int .i32 nsec, .bool isI, .int .u64 bits, .string s, .pointer q] 50) wr)
      case first =>
        rcases HM.out with m | m | m
        · obtain ⟨x5, rfl⟩ : ∃ x5, a5 = some x5 := by
            obtain ⟨-, -, -, -, ⟨g, cap, v5⟩, -⟩ := m
            exact some_eq (HV5.out.symm.trans v5)
          have HM3 := Hid.mk m
          clear m
          go_wp2
          go_meet
          case rel => exact ⟨V, X, HH.out.alloc _, Step.alloc _ _ _ _, HM3.out, step_box HH.out (Step.refl _ _ _)⟩
        · obtain rfl : a5 = none := none_eq (HV5.out.symm.trans m.1)
          obtain ⟨-, ⟨g, cap, v2⟩, x2, x3, x4, hkd, -⟩ := m
          have HM3 := Hid.mk (And.intro v2 (And.intro x2 (And.intro x3 (And.intro x4 hkd))))
          clear v2 x2 x3 x4 hkd
          go_wp2_with (go_at_call 24; refine (keepNum_any b _ L S V X (HH.out.alloc _) hL0 hL1 (slotsOf es 0) (intsOf es) HM3.out.2.1 HM3.out.2.2.1 (by rw [slotsOf_len]; omega) g cap (by rw [slotsOf_len]; exact HM3.out.1)).mono ?_; rintro e w' ⟨rfl, hA⟩)
          go_meet
          case rel =>
            obtain ⟨v2, x2, x3, x4, hkd⟩ := HM3.out
            obtain ⟨V', X', g5, cap5', g2, cap2', hB, hS, r4, rx4, rx2, rx3, rx5, rv5, rv2⟩ := hA
            rw [slotsOf_len] at rx5 rv5 rv2
            exact ⟨V', X', hB, (Step.alloc _ _ _ _).trans hS, ⟨by rw [rx5, hkd], rx2, rx3, by rw [rx4, x4], ⟨g5, cap5', rv5⟩, ⟨g2, cap2', rv2⟩⟩, step_box HH.out hS⟩
        · obtain rfl : a5 = none := none_eq (HV5.out.symm.trans m.1)
          obtain ⟨-, v2, x4, xl, hsl, hil, hkd, -, -⟩ := m
          have HM3 := Hid.mk (And.intro v2 (And.intro x4 (And.intro xl (And.intro hsl (And.intro hil hkd)))))
          clear v2 x4 xl hsl hil hkd
          go_wp2_with (go_at_call 24; refine (keepStr_any b _ L S V X (HH.out.alloc _) hL0 hL1 es.length HM3.out.2.2.1 (by omega) HM3.out.1).mono ?_; rintro e w' ⟨rfl, hA⟩)
          go_meet
          case rel =>
            obtain ⟨v2, x4, xl, hsl, hil, hkd⟩ := HM3.out
            obtain ⟨V', X', g5, cap5', g2, cap2', hB, hS, r4, rx4, rx2, rx3, rx5, rv5, rv2⟩ := hA
            rw [rng_len] at rv2
            exact ⟨V', X', hB, (Step.alloc _ _ _ _).trans hS, ⟨by rw [rx5, hkd], by rw [rx2, hsl], by rw [rx3, hil], by rw [rx4, x4], ⟨g5, cap5', rv5⟩, ⟨g2, cap2', rv2⟩⟩, step_box HH.out hS⟩
      case rest =>
        clear HM T1 T2 HV5 c2 c4 c5 hbw HH
        obtain ⟨V1, X1, hB1, hS1, ⟨x5, x2, x3, x4, ⟨g5, cp5, v5⟩, ⟨g2, cp2, v2⟩⟩, hbx, hxb, hno⟩ := hcut
        have c5 := hB1.cell5
        rw [v5] at c5
        have k0 : wc.cell? ⟨w.heap.size, 0, none⟩ = some (.int .u8 k) := by rw [Lib.cell_of_heap hbx]; rfl
        have hbw := hB1.lt
        have hl5 : (X1 5).length = es.length := by rw [x5]; simp [u8s, kindsOf]
        obtain ⟨g', cap', w1, hrun, hc1, hf1, hB3, hS3⟩ := app5 hB1.drew (.int .u8 k) rfl (by omega)
        rw [v5] at hrun hc1
        rw [hl5] at hrun hB3 hS3
        have hrun' : (Builtin.append_ #[42, 42] 42 #[.slice (some ⟨g5, 0, none⟩) es.length cp5, .slice (some ⟨wc.heap.size, 0, none⟩) 1 1]).run Try.prog (wc.alloc (.cells #[.int .u8 k] 46)).drew = .ok (.slice (some ⟨g', 0, none⟩) (es.length + 1) cap') w1 := hrun
        have hsb := hS3.block w.heap.size (by show w.heap.size < wc.drew.heap.size; have := (Array.getElem?_eq_some_iff.1 hbx).1; exact this) hxb hno
        have HN := Hid.mk (And.intro hB3 (And.intro (hS1.trans ((Step.refl _ _ _).drew.trans hS3)) (And.intro hsb hS3.fresh)))
        have HV := Hid.mk (And.intro x5 (And.intro x2 (And.intro x3 (And.intro x4 (And.intro v2 (And.intro hbx (And.intro hxb (And.intro hno (Array.getElem?_eq_some_iff.1 hbx).1))))))))
        clear hB1 hB3 hS1 hS3 x5 x2 x3 x4 v2 v5 hbx hno hrun hsb
        go_upto_region 7 with (fail)
        go_cut [] (fun wr => ∃ V' X', Bld wr b L S V' X' ∧ Step w b V wr V' ∧ X' 5 = u8s (kindsOf es ++ [k]) ∧ X' 2 = u64s (slotsOf es 0) ∧ X' 3 = u64s (intsOf es) ∧ X' 4 = strV es ∧ V' 5 = .slice (some ⟨g', 0, none⟩) (es.length + 1) cap' ∧
          wr.heap[w.heap.size]? = some (.cells #[.int .u8 k, .bool bo, .int .i32 nsec, .bool isI, .int .u64 bits, .string s, .pointer q] 50) ∧ w.heap.size ≠ b ∧ ∀ p, 2 ≤ p → p < 6 → (V' p).ownBlock ≠ some w.heap.size)
        case first =>
          go_region_law (refine step_append_run _ (by rfl) _ _ 42 (by rfl) _ _ _ _ hrun' (by rfl) (by rfl) ?_)
          all_goals (go_wp2; go_meet)
          all_goals
            obtain ⟨x5, x2, x3, x4, v2, hbx, hxb', hno, hlt⟩ := HV.out
            refine ⟨_, _, HN.out.1, HN.out.2.1, by rw [put_same, x5]; simp [u8s], x2, x3, x4, rfl, HN.out.2.2.1.trans hbx, hxb', fun p h1 h2 e => ?_⟩
            rcases HN.out.2.2.2 p _ h1 h2 e with a | a
            · exact hno p h1 h2 a
            · exact absurd (show wc.heap.size ≤ w.heap.size from a) (by omega)
        case rest =>
          clear HN HV hrun' hc1 hf1 c5 k0 hbw hl5 hxb
          obtain ⟨V2, X2, hB, hS, x5, x2, x3, x4, v5, hbx, hxb, hno⟩ := hcut
          have k0 : wc.cell? ⟨w.heap.size, 0, none⟩ = some (.int .u8 k) := by rw [Lib.cell_of_heap hbx]; rfl
          have k1 : wc.cell? ⟨w.heap.size, 1, none⟩ = some (.bool bo) := by rw [Lib.cell_of_heap hbx]; rfl
          have k3 : wc.cell? ⟨w.heap.size, 3, none⟩ = some (.bool isI) := by rw [Lib.cell_of_heap hbx]; rfl
          have k4 : wc.cell? ⟨w.heap.size, 4, none⟩ = some (.int .u64 bits) := by rw [Lib.cell_of_heap hbx]; rfl
          have k5 : wc.cell? ⟨w.heap.size, 5, none⟩ = some (.string s) := by rw [Lib.cell_of_heap hbx]; rfl
          obtain ⟨a4, cp4, e4, -, -⟩ := form hB 4 (by decide) (by decide)
          have c4 := hB.cell4
          have hl4 : (X2 4).length = nstr es := by rw [x4, strV_len]
          rw [e4, hl4] at c4
          have hns := nstr_le es
          have hlt := (Array.getElem?_eq_some_iff.1 hbx).1
          have HB := Hid.mk hB
          have HX := Hid.mk (And.intro x5 (And.intro x2 (And.intro x3 (And.intro x4 (And.intro v5 hS)))))
          have HY := Hid.mk (And.intro hbx (And.intro hxb (And.intro hno hlt)))
          have hln := intsOf_len es
          have hsl := slotsOf_len es 0
          have HLN : Hid ((intsOf es).length = ((slotsOf es 0).length + 63) / 64) := by rw [hsl]; exact hln
          have HSL : Hid ((slotsOf es 0).length ≤ 20000) := by rw [hsl]; exact Nat.le_trans hn (by decide)
          clear hB hS x5 x2 x3 x4 v5 hbx hno e4 hln hsl
          by_cases hk2 : (k == 2) = true
          · go_wp2_with (go_at_call 22; refine (addNumber_any b _ L S V2 X2 HB.out hL0 hL1 (slotsOf es 0) (intsOf es) HX.out.2.1 HX.out.2.2.1 HLN.out HSL.out bits isI).mono ?_; rintro e w' ⟨rfl, hA⟩)
            go_end0
            have e2 : k = 2 := by simpa using hk2
            exact ⟨rfl, rep_slot hA HX.out.2.2.2.2.2 ⟨k, bo, isI, bits, s⟩ HX.out.1 HX.out.2.2.2.1 HX.out.2.2.2.2.1 (by simp [slotOf, e2]) (by simp [e2]) (by simp [e2])⟩
          · have hk2' : (k == 2) = false := by simpa using hk2
            by_cases hk3 : (k == 3) = true
            · go_wp2_with (go_at_call 25; refine (addSlot_any b _ L S V2 X2 HB.out hL0 hL1 (slotsOf es 0) (intsOf es) HX.out.2.1 HX.out.2.2.1 HLN.out HSL.out (nstr es) false).mono ?_; rintro e w' ⟨rfl, ⟨V3, X3, g3, cap3, hB3, hS3, r4, r5, rx4, rx5, rx2, rx3, rv2⟩⟩; have k5' : w'.cell? ⟨w.heap.size, 5, none⟩ = some (.string s) := (by rw [Lib.cell_of_heap ((hS3.block w.heap.size HY.out.2.2.2 HY.out.2.1 HY.out.2.2.1).trans HY.out.1)]; rfl); have HZ := Hid.mk (And.intro hB3 (And.intro hS3 (And.intro r5 (And.intro rx4 (And.intro rx5 (And.intro rx2 (And.intro rx3 rv2))))))); clear hB3 hS3 r4 r5 rx4 rx5 rx2 rx3 rv2)
              go_wp2_with (go_at_call 23; refine (addString_any b _ L S V3 X3 HZ.out.1 hS0 hS1 (by rw [HZ.out.2.2.2.1, hl4]; omega) s).mono ?_; rintro e w'' ⟨rfl, hA⟩)
              go_end0
              have e3 : k = 3 := by simpa using hk3
              obtain ⟨hB3, hS3, r5, rx4, rx5, rx2, rx3, rv2⟩ := HZ.out
              exact ⟨rfl, rep_str hS3 r5 rx4 rx5 ⟨k, bo, isI, bits, s⟩ rx2 rx3 rv2 hA HX.out.2.2.2.2.2 HX.out.1 HX.out.2.2.2.1 HX.out.2.2.2.2.1 e3⟩
            · have hk3' : (k == 3) = false := by simpa using hk3
              have n2 : k ≠ 2 := by simpa using hk2
              have n3 : k ≠ 3 := by simpa using hk3
              have HN2 := Hid.mk n2
              have HN3 := Hid.mk n3
              clear n2 n3
              by_cases hk1 : (k == 1) = true
              · have e1 : k = 1 := by simpa using hk1
                have HE1 := Hid.mk e1
                clear e1
                cases bo with
                | true =>
                  go_wp2_with (go_at_call 25; refine (addSlot_any b _ L S V2 X2 HB.out hL0 hL1 (slotsOf es 0) (intsOf es) HX.out.2.1 HX.out.2.2.1 HLN.out HSL.out 1 false).mono ?_; rintro e w' ⟨rfl, hA⟩)
                  go_end0
                  exact ⟨rfl, rep_slot hA HX.out.2.2.2.2.2 ⟨k, true, isI, bits, s⟩ HX.out.1 HX.out.2.2.2.1 HX.out.2.2.2.2.1 (by simp [slotOf, HE1.out]) (by simp [HE1.out]) HN3.out⟩
                | false =>
                  go_wp2_with (go_at_call 25; refine (addSlot_any b _ L S V2 X2 HB.out hL0 hL1 (slotsOf es 0) (intsOf es) HX.out.2.1 HX.out.2.2.1 HLN.out HSL.out 0 false).mono ?_; rintro e w' ⟨rfl, hA⟩)
                  go_end0
                  exact ⟨rfl, rep_slot hA HX.out.2.2.2.2.2 ⟨k, false, isI, bits, s⟩ HX.out.1 HX.out.2.2.2.1 HX.out.2.2.2.2.1 (by simp [slotOf, HE1.out]) (by simp [HE1.out]) HN3.out⟩
              · have hk1' : (k == 1) = false := by simpa using hk1
                have n1 : k ≠ 1 := by simpa using hk1
                have HN1 := Hid.mk n1
                clear n1
                go_wp2_with (go_at_call 25; refine (addSlot_any b _ L S V2 X2 HB.out hL0 hL1 (slotsOf es 0) (intsOf es) HX.out.2.1 HX.out.2.2.1 HLN.out HSL.out 0 false).mono ?_; rintro e w' ⟨rfl, hA⟩)
                go_end0
                exact ⟨rfl, rep_slot hA HX.out.2.2.2.2.2 ⟨k, bo, isI, bits, s⟩ HX.out.1 HX.out.2.2.2.1 HX.out.2.2.2.2.1 (by simp [slotOf, HN1.out, HN2.out, HN3.out]) (by simp [HN2.out]) HN3.out⟩
end Go.Proofs.Qxb6603696a
