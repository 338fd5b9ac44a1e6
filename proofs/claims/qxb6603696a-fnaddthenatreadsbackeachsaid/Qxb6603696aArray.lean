import Derived.Test.Qxb6603696aArr
namespace Go.Proofs.Qxb6603696a
open Go.RowKit

/-- The bytes of the first i strings. -/
def bytesOf (l : List ByteArray) (i : Nat) : Nat := ((l.take i).map ByteArray.size).sum
/-- The first value from place i on that is neither a number nor a string. -/
def otherFrom : List El → Nat → Int
  | [], _ => -1
  | e :: es, i => if e.k ≠ 2 ∧ e.k ≠ 3 then (i : Int) else otherFrom es (i + 1)
def otherOf (es : List El) : Int := otherFrom es 0
def sizeOf (es : List El) : Int := es.length + bytesOf (strsOf es) (strsOf es).length

theorem bytesOf_succ (l : List ByteArray) (i : Nat) (h : i < l.length) : bytesOf l (i + 1) = bytesOf l i + (l[i]'h).size := by
  unfold bytesOf
  rw [List.take_succ_eq_append_getElem h, List.map_append, List.sum_append]
  rfl

theorem bytesOf_le (l : List ByteArray) : ∀ i, bytesOf l i ≤ bytesOf l l.length := by
  intro i
  unfold bytesOf
  rw [List.take_length]
  have e : (l.map ByteArray.size).sum = ((l.take i).map ByteArray.size).sum + ((l.drop i).map ByteArray.size).sum := by rw [← List.sum_append, ← List.map_append, List.take_append_drop]
  omega

/-- The array being finished: all that was there stands. -/
def ArrB (w : World) (b : Nat) (V : Nat → Value) (r : Nat) (oth sz : Int) (wr : World) : Prop :=
  ArrAt wr r V oth sz ∧ Below w.heap.size w wr ∧ w.heap.size < r ∧ b < w.heap.size ∧ wr.heap[w.heap.size]? = some (.cells #[.int .u8 0, .bool false, .int .i32 0, .bool false, .int .u64 0, .string ByteArray.empty, .pointer none] 50 (0, 0))

theorem ArrB.cells {w wr : World} {b r : Nat} {V : Nat → Value} {oth sz : Int} (h : ArrB w b V r oth sz wr) :
    wr.cell? ⟨r, 3, none⟩ = some (V 4) ∧ wr.cell? ⟨r, 4, none⟩ = some (V 5) ∧ wr.cell? ⟨r, 5, none⟩ = some (.int .i64 oth) ∧ wr.cell? ⟨r, 6, none⟩ = some (.int .i64 sz) ∧ (∀ p, wr.frozen? ⟨r, p, none⟩ = false) ∧ r < wr.heap.size :=
  ⟨by rw [Lib.cell_of_heap h.1]; rfl, by rw [Lib.cell_of_heap h.1]; rfl, by rw [Lib.cell_of_heap h.1]; rfl, by rw [Lib.cell_of_heap h.1]; rfl, fun p => Lib.frozen_of_heap h.1 p, (Array.getElem?_eq_some_iff.1 h.1).1⟩

theorem ArrB.size {w wr : World} {b r : Nat} {V : Nat → Value} {oth sz : Int} (h : ArrB w b V r oth sz wr) (sz' : Int) : ArrB w b V r oth sz' (wr.setCell ⟨r, 6, none⟩ (.int .i64 sz')) := by
  refine ⟨?_, h.2.1.setCell (p := ⟨r, 6, none⟩) (Nat.le_of_lt h.2.2.1) _, h.2.2.1, h.2.2.2.1, (Below.heap_setCell _ _ _ _ (Nat.ne_of_lt h.2.2.1)).trans h.2.2.2.2⟩
  have := h.1
  unfold ArrAt at this ⊢
  simp only [World.setCell, Array.getElem?_modify, if_true, this]
  rfl
theorem ArrB.other {w wr : World} {b r : Nat} {V : Nat → Value} {oth sz : Int} (h : ArrB w b V r oth sz wr) (o' : Int) : ArrB w b V r o' sz (wr.setCell ⟨r, 5, none⟩ (.int .i64 o')) := by
  refine ⟨?_, h.2.1.setCell (p := ⟨r, 5, none⟩) (Nat.le_of_lt h.2.2.1) _, h.2.2.1, h.2.2.2.1, (Below.heap_setCell _ _ _ _ (Nat.ne_of_lt h.2.2.1)).trans h.2.2.2.2⟩
  have := h.1
  unfold ArrAt at this ⊢
  simp only [World.setCell, Array.getElem?_modify, if_true, this]
  rfl

/-- A value's kind, by its place. -/
theorem kinds_at (es : List El) (i : Nat) (h : i < es.length) : (u8s (kindsOf es))[i]? = some (.int .u8 (es[i]'h).k) := by
  simp [u8s, kindsOf, h]
theorem strs_at (es : List El) (i : Nat) (h : i < (strsOf es).length) : (strV es)[i]? = some (.string ((strsOf es)[i]'h)) := by
  simp [strV, h]

theorem other_skip (es : List El) : ∀ (i c : Nat), i ≤ es.length → (∀ j, (h : j < es.length) → j < i → (es[j]'h).k = 2 ∨ (es[j]'h).k = 3) → otherFrom es c = otherFrom (es.drop i) (c + i) := by
  intro i
  induction i with
  | zero => intro c _ _; simp
  | succ i ih =>
    intro c hi hall
    rw [ih c (by omega) (fun j h hj => hall j h (by omega))]
    have hlt : i < es.length := by omega
    rw [List.drop_eq_getElem_cons hlt, otherFrom]
    have := hall i hlt (by omega)
    rw [if_neg (by omega), Nat.add_assoc]
theorem other_hit (es : List El) (i : Nat) (hi : i < es.length) (hall : ∀ j, (h : j < es.length) → j < i → (es[j]'h).k = 2 ∨ (es[j]'h).k = 3) (h2 : (es[i]'hi).k ≠ 2) (h3 : (es[i]'hi).k ≠ 3) : otherOf es = i := by
  unfold otherOf
  rw [other_skip es i 0 (by omega) hall, List.drop_eq_getElem_cons hi, otherFrom, if_pos ⟨h2, h3⟩]
  simp
theorem other_none (es : List El) (hall : ∀ j, (h : j < es.length) → (es[j]'h).k = 2 ∨ (es[j]'h).k = 3) : otherOf es = -1 := by
  unfold otherOf
  rw [other_skip es es.length 0 (Nat.le_refl _) (fun j h _ => hall j h), List.drop_length]
  rfl

theorem ArrAt.box {wr : World} {r h0 i : Nat} {V : Nat → Value} {oth sz : Int} (h : ArrAt wr r V oth sz) (hne : r ≠ h0) (v : Value) : ArrAt (wr.setCell ⟨h0, i, none⟩ v) r V oth sz := by
  unfold ArrAt at h ⊢
  rw [Below.heap_setCell _ _ _ _ hne]
  exact h

theorem ArrB.fin {w wr : World} {b r : Nat} {V : Nat → Value} {oth sz : Int} (h : ArrB w b V r oth sz wr) (v0 v1 v2 v3 v4 v5 v6 : Value) :
    ArrAt (((((((wr.setCell ⟨w.heap.size, 0, none⟩ v0).setCell ⟨w.heap.size, 1, none⟩ v1).setCell ⟨w.heap.size, 2, none⟩ v2).setCell ⟨w.heap.size, 3, none⟩ v3).setCell ⟨w.heap.size, 4, none⟩ v4).setCell ⟨w.heap.size, 5, none⟩ v5).setCell ⟨w.heap.size, 6, none⟩ v6) r V oth sz ∧
    Below w.heap.size w (((((((wr.setCell ⟨w.heap.size, 0, none⟩ v0).setCell ⟨w.heap.size, 1, none⟩ v1).setCell ⟨w.heap.size, 2, none⟩ v2).setCell ⟨w.heap.size, 3, none⟩ v3).setCell ⟨w.heap.size, 4, none⟩ v4).setCell ⟨w.heap.size, 5, none⟩ v5).setCell ⟨w.heap.size, 6, none⟩ v6) ∧ w.heap.size < r := by
  have hne : r ≠ w.heap.size := fun e => by have := h.2.2.1; omega
  exact ⟨((((((h.1.box hne v0).box hne v1).box hne v2).box hne v3).box hne v4).box hne v5).box hne v6,
    ((((((h.2.1.setCell (p := ⟨w.heap.size, 0, none⟩) (Nat.le_refl _) v0).setCell (p := ⟨w.heap.size, 1, none⟩) (Nat.le_refl _) v1).setCell (p := ⟨w.heap.size, 2, none⟩) (Nat.le_refl _) v2).setCell (p := ⟨w.heap.size, 3, none⟩) (Nat.le_refl _) v3).setCell (p := ⟨w.heap.size, 4, none⟩) (Nat.le_refl _) v4).setCell (p := ⟨w.heap.size, 5, none⟩) (Nat.le_refl _) v5).setCell (p := ⟨w.heap.size, 6, none⟩) (Nat.le_refl _) v6, h.2.2.1⟩

theorem rep_kinds {w : World} {b : Nat} {L S : Int} {V : Nat → Value} {X : Nat → List Value} {es : List El} (h : Bld w b L S V X) (hr : Rep V X es) : (X 5 = [] ∧ otherOf es = -1) ∨ X 5 = u8s (kindsOf es) := by
  have nil5 : V 5 = .slice none 0 0 → X 5 = [] := fun e => by
    rcases own_nil h (p := 5) (by decide) (by decide) with ⟨_, ex⟩ | ⟨g, cap, e'⟩
    · exact ex
    · rw [e] at e'; cases e'
  rcases hr with ⟨rfl, v2, v3, v4, v5, x2, x3, x4, x5⟩ | ⟨hall, v5, v4, x4, x2, x3, g, cap, v2⟩ | ⟨hall, v5, v2, x4, g, cap, v4⟩ | m3
  · exact Or.inl ⟨x5, rfl⟩
  · exact Or.inl ⟨nil5 v5, other_none es (fun j h => Or.inl (hall _ (List.getElem_mem h)))⟩
  · exact Or.inl ⟨nil5 v5, other_none es (fun j h => Or.inr (hall _ (List.getElem_mem h)))⟩
  · exact Or.inr m3.1

set_option maxHeartbeats 4000000 in
set_option maxRecDepth 1000000 in
theorem array_any (b : Nat) (w : World) (L S : Int) (V : Nat → Value) (X : Nat → List Value) (h : Bld w b L S V X) (es : List El) (hr : Rep V X es) (hn : es.length ≤ 16384) (hz : bytesOf (strsOf es) (strsOf es).length ≤ 1048576) :
    Calls Try.prog 20 #[.pointer (some ⟨b, 0, none⟩)] w fun e w' => ∃ r, e = .returned (.agg #[.int .u8 4, .bool false, .int .i32 0, .bool false, .int .u64 0, .string ByteArray.empty, .pointer (some ⟨r, 0, none⟩)]) ∧ ArrAt w' r V (otherOf es) (sizeOf es) ∧ Below w.heap.size w w' ∧ w.heap.size < r := by
  have HH := Hid.mk (And.intro h hr)
  have hbw := h.lt
  obtain ⟨a4, cap4, e4, -, hs4⟩ := form h 4 (by decide) (by decide)
  obtain ⟨a5, cap5, e5, -, hs5⟩ := form h 5 (by decide) (by decide)
  clear h hr
  go_enter Try.func20, Try.ntmps20
  go_wp2_with (go_at_call 17; refine (content_any b _ L S V X (HH.out.1.alloc _)).mono ?_; rintro e w' ⟨rfl, hA, hBe⟩)
  have hA1 : ArrB w b V (w.heap.size + 1) (-1) 0 w' := by
    refine ⟨by simpa using hA, ((Below.refl _ _).alloc (Nat.le_refl _) _).trans (hBe.mono (by simp)), by omega, hbw, (hBe.block w.heap.size (by simp)).trans (heap_alloc_new w _)⟩
  clear hA hBe
  obtain ⟨r, hrr⟩ : ∃ r, r = w.heap.size + 1 := ⟨_, rfl⟩
  rw [← hrr]
  rw [← hrr] at hA1
  have HR := Hid.mk hrr
  clear hrr
  have c6 := hA1.cells.2.2.2.1
  have f6 := hA1.cells.2.2.2.2.1 6
  have HA := Hid.mk hA1
  have HL := Hid.mk (hA1.size (es.length : Int))
  have c3 := HL.out.cells.1
  rw [e4, HH.out.2.x4] at c3
  have HE := Hid.mk (And.intro e4 (And.intro hs4 (And.intro e5 hs5)))
  clear e4 hs4 e5 hs5
  go_wp2_with (go_at_call 18; refine (len_any r _ V X es (-1) 0 hA1.1 HH.out.2).mono ?_; rintro e w2 ⟨rfl, rfl⟩)
  clear c3 HA hA1 c6 f6
  have hsl : (strV es).length = (strsOf es).length := by simp [strV]
  have hns : (strsOf es).length ≤ 16384 := by have := nstr_le es; simp [strsOf]; unfold nstr at this; omega
  go_loopw [20] (fun i wr => ∃ j : Nat, j ≤ (strsOf es).length ∧ i = .int .i64 j ∧ Hid (ArrB w b V r (-1) ((es.length : Int) + bytesOf (strsOf es) j) wr)) (fun i _ => (strsOf es).length - (intOf i).toNat)
  case atStart => exact ⟨0, by omega, rfl, by have h0 := HL.out; rw [show bytesOf (strsOf es) 0 = 0 from rfl]; rw [show ((es.length : Int) + ((0 : Nat) : Int)) = es.length by omega]; exact h0⟩
  case round =>
    obtain ⟨j, hj, rfl, HK⟩ := hrel
    by_cases hlt : (j : Int) < (strsOf es).length
    · obtain ⟨x4, hx4⟩ : ∃ x, a4 = some x := by
        cases a4 with
        | some x => exact ⟨x, rfl⟩
        | none =>
          exfalso
          rcases own_nil HH.out.1 (p := 4) (by decide) (by decide) with ⟨_, ex⟩ | ⟨g, cap, e⟩
          · rw [HH.out.2.x4] at ex; rw [ex] at hsl; simp at hsl; omega
          · have := HE.out.1; rw [e] at this; cases this
      subst hx4
      obtain ⟨g4, rfl⟩ := HE.out.2.1 x4 rfl
      have hjl : j < (strsOf es).length := by omega
      have cj : wr.cell? ⟨g4, j, none⟩ = some (.string ((strsOf es)[j])) := by
        obtain ⟨_, hcell, _, _, _, hg⟩ := HH.out.1.elem (by decide) (by decide) HE.out.1
        rw [HK.out.2.1.cell (p := ⟨g4, j, none⟩) hg]
        exact hcell j _ (by rw [HH.out.2.x4]; exact strs_at es j hjl)
      obtain ⟨-, -, -, c6, hfz, -⟩ := HK.out.cells
      have f6 := hfz 6
      have hb1 := bytesOf_succ (strsOf es) j hjl
      have hb2 := bytesOf_le (strsOf es) (j + 1)
      obtain ⟨str, hstr⟩ : ∃ str, str = (strsOf es)[j] := ⟨_, rfl⟩
      rw [← hstr] at cj hb1
      have HK' := Hid.mk (HK.out.size ((es.length : Int) + bytesOf (strsOf es) j + str.size))
      have HB := Hid.mk hb1
      have hbd : bytesOf (strsOf es) j + str.size ≤ 1048576 := by omega
      clear hfz hb1 hb2 hstr
      have hj0 : (0 : Int) ≤ (j : Int) := by omega
      go_wp2
      go_roundw
      case rel => exact ⟨j + 1, by omega, by go_num, by have := HK'.out; rw [HB.out]; rw [show ((es.length : Int) + ((bytesOf (strsOf es) j + str.size : Nat) : Int)) = (es.length : Int) + bytesOf (strsOf es) j + str.size by omega]; exact this⟩
      case measure => simp [intOf]; omega
    · obtain rfl : j = (strsOf es).length := by omega
      have HS : Hid (ArrB w b V r (-1) (sizeOf es) wr) := HK.out
      clear HK HL
      have c4 := HS.out.cells.2.1
      rw [HE.out.2.2.1] at c4
      rcases rep_kinds HH.out.1 HH.out.2 with ⟨hx5, ho⟩ | hx5
      · have hl5 : (X 5).length = 0 := by rw [hx5]; rfl
        have HO := Hid.mk ho
        clear ho hx5
        have r0 : wr.cell? ⟨w.heap.size, 0, none⟩ = some (.int .u8 0) := by rw [Lib.cell_of_heap HS.out.2.2.2.2]; rfl
        have q0 : wr.frozen? ⟨w.heap.size, 0, none⟩ = false := Lib.frozen_of_heap HS.out.2.2.2.2 0
        have r1 : wr.cell? ⟨w.heap.size, 1, none⟩ = some (.bool false) := by rw [Lib.cell_of_heap HS.out.2.2.2.2]; rfl
        have q1 : wr.frozen? ⟨w.heap.size, 1, none⟩ = false := Lib.frozen_of_heap HS.out.2.2.2.2 1
        have r2 : wr.cell? ⟨w.heap.size, 2, none⟩ = some (.int .i32 0) := by rw [Lib.cell_of_heap HS.out.2.2.2.2]; rfl
        have q2 : wr.frozen? ⟨w.heap.size, 2, none⟩ = false := Lib.frozen_of_heap HS.out.2.2.2.2 2
        have r3 : wr.cell? ⟨w.heap.size, 3, none⟩ = some (.bool false) := by rw [Lib.cell_of_heap HS.out.2.2.2.2]; rfl
        have q3 : wr.frozen? ⟨w.heap.size, 3, none⟩ = false := Lib.frozen_of_heap HS.out.2.2.2.2 3
        have r4 : wr.cell? ⟨w.heap.size, 4, none⟩ = some (.int .u64 0) := by rw [Lib.cell_of_heap HS.out.2.2.2.2]; rfl
        have q4 : wr.frozen? ⟨w.heap.size, 4, none⟩ = false := Lib.frozen_of_heap HS.out.2.2.2.2 4
        have r5 : wr.cell? ⟨w.heap.size, 5, none⟩ = some (.string ByteArray.empty) := by rw [Lib.cell_of_heap HS.out.2.2.2.2]; rfl
        have q5 : wr.frozen? ⟨w.heap.size, 5, none⟩ = false := Lib.frozen_of_heap HS.out.2.2.2.2 5
        have r6 : wr.cell? ⟨w.heap.size, 6, none⟩ = some (.pointer none) := by rw [Lib.cell_of_heap HS.out.2.2.2.2]; rfl
        have q6 : wr.frozen? ⟨w.heap.size, 6, none⟩ = false := Lib.frozen_of_heap HS.out.2.2.2.2 6
        go_wp2
        refine wp_loop_rounds 1 ?_
        rw [rounds_succ]
        go_wp2
        exact bodyPost_ret (v := .agg #[.int .u8 4, .bool false, .int .i32 0, .bool false, .int .u64 0, .string ByteArray.empty, .pointer (some ⟨r, 0, none⟩)]) (by simp [results, Try.results20, go_sem, r0, r1, r2, r3, r4, r5, r6]; rfl) rfl ⟨r, rfl, by rw [HO.out]; exact HS.out.fin _ _ _ _ _ _ _⟩
      · have hl5 : (X 5).length = es.length := by rw [hx5]; simp [u8s, kindsOf]
        rw [hl5] at c4
        have HX := Hid.mk hx5
        clear hx5
        go_wp2
        clear c4
        obtain ⟨wo, rfl⟩ : ∃ wo : World, wo = wr := ⟨_, rfl⟩
        go_loopw [39] (fun i wr => ∃ j : Nat, j ≤ es.length ∧ i = .int .i64 j ∧ Hid (ArrB w b V r (-1) (sizeOf es) wr) ∧ Hid (∀ q, (h : q < es.length) → q < j → (es[q]'h).k = 2 ∨ (es[q]'h).k = 3)) (fun i _ => es.length - (intOf i).toNat)
        case atStart => exact ⟨0, by omega, rfl, HS, fun q h hq => by omega⟩
        case round =>
          obtain ⟨j, hj, rfl, HK, HQ⟩ := hrel
          have r0 : wr.cell? ⟨w.heap.size, 0, none⟩ = some (.int .u8 0) := by rw [Lib.cell_of_heap HK.out.2.2.2.2]; rfl
          have q0 : wr.frozen? ⟨w.heap.size, 0, none⟩ = false := Lib.frozen_of_heap HK.out.2.2.2.2 0
          have r1 : wr.cell? ⟨w.heap.size, 1, none⟩ = some (.bool false) := by rw [Lib.cell_of_heap HK.out.2.2.2.2]; rfl
          have q1 : wr.frozen? ⟨w.heap.size, 1, none⟩ = false := Lib.frozen_of_heap HK.out.2.2.2.2 1
          have r2 : wr.cell? ⟨w.heap.size, 2, none⟩ = some (.int .i32 0) := by rw [Lib.cell_of_heap HK.out.2.2.2.2]; rfl
          have q2 : wr.frozen? ⟨w.heap.size, 2, none⟩ = false := Lib.frozen_of_heap HK.out.2.2.2.2 2
          have r3 : wr.cell? ⟨w.heap.size, 3, none⟩ = some (.bool false) := by rw [Lib.cell_of_heap HK.out.2.2.2.2]; rfl
          have q3 : wr.frozen? ⟨w.heap.size, 3, none⟩ = false := Lib.frozen_of_heap HK.out.2.2.2.2 3
          have r4 : wr.cell? ⟨w.heap.size, 4, none⟩ = some (.int .u64 0) := by rw [Lib.cell_of_heap HK.out.2.2.2.2]; rfl
          have q4 : wr.frozen? ⟨w.heap.size, 4, none⟩ = false := Lib.frozen_of_heap HK.out.2.2.2.2 4
          have r5 : wr.cell? ⟨w.heap.size, 5, none⟩ = some (.string ByteArray.empty) := by rw [Lib.cell_of_heap HK.out.2.2.2.2]; rfl
          have q5 : wr.frozen? ⟨w.heap.size, 5, none⟩ = false := Lib.frozen_of_heap HK.out.2.2.2.2 5
          have r6 : wr.cell? ⟨w.heap.size, 6, none⟩ = some (.pointer none) := by rw [Lib.cell_of_heap HK.out.2.2.2.2]; rfl
          have q6 : wr.frozen? ⟨w.heap.size, 6, none⟩ = false := Lib.frozen_of_heap HK.out.2.2.2.2 6
          by_cases hlt : (j : Int) < es.length
          · have hjl : j < es.length := by omega
            obtain ⟨x5, hx5⟩ : ∃ x, a5 = some x := by
              cases a5 with
              | some x => exact ⟨x, rfl⟩
              | none =>
                exfalso
                rcases own_nil HH.out.1 (p := 5) (by decide) (by decide) with ⟨_, ex⟩ | ⟨g, cap, e⟩
                · rw [ex] at hl5; simp at hl5; omega
                · have := HE.out.2.2.1; rw [e] at this; cases this
            subst hx5
            obtain ⟨g5, rfl⟩ := HE.out.2.2.2 x5 rfl
            obtain ⟨k, hk⟩ : ∃ k, k = (es[j]'hjl).k := ⟨_, rfl⟩
            have cj : wr.cell? ⟨g5, j, none⟩ = some (.int .u8 k) := by
              obtain ⟨_, hcell, _, _, _, hg⟩ := HH.out.1.elem (by decide) (by decide) HE.out.2.2.1
              rw [HK.out.2.1.cell (p := ⟨g5, j, none⟩) hg, hk]
              exact hcell j _ (by rw [HX.out]; exact kinds_at es j hjl)
            have HKK := Hid.mk hk
            clear hk
            have hj0 : (0 : Int) ≤ (j : Int) := by omega
            obtain ⟨-, -, c5, -, hfz, hrl⟩ := HK.out.cells
            have f5 := hfz 5
            clear hfz
            have hrw : w.heap.size < r := HK.out.2.2.1
            by_cases hk2 : (k == 2) = true
            · have e2 : k = 2 := by simpa using hk2
              have HQ' : Hid (∀ q, (h : q < es.length) → q < j + 1 → (es[q]'h).k = 2 ∨ (es[q]'h).k = 3) := fun q h hq => by
                by_cases eq : q = j
                · subst eq; rw [← HKK.out]; exact Or.inl e2
                · exact HQ.out q h (by omega)
              have b2 : (k != 2) = false := by rw [e2]; rfl
              clear e2
              go_wp2
              go_roundw
              case rel => exact ⟨j + 1, by omega, by go_num, HK, HQ'⟩
              case measure => simp [intOf]; omega
            · have hk2' : (k == 2) = false := by simpa using hk2
              by_cases hk3 : (k == 3) = true
              · have e3 : k = 3 := by simpa using hk3
                have HQ' : Hid (∀ q, (h : q < es.length) → q < j + 1 → (es[q]'h).k = 2 ∨ (es[q]'h).k = 3) := fun q h hq => by
                  by_cases eq : q = j
                  · subst eq; rw [← HKK.out]; exact Or.inr e3
                  · exact HQ.out q h (by omega)
                have b2 : (k != 2) = true := by rw [e3]; rfl
                have b3 : (k != 3) = false := by rw [e3]; rfl
                clear e3
                go_wp2
                go_roundw
                case rel => exact ⟨j + 1, by omega, by go_num, HK, HQ'⟩
                case measure => simp [intOf]; omega
              · have hk3' : (k == 3) = false := by simpa using hk3
                have HO : Hid (otherOf es = j) := other_hit es j hjl HQ.out (by rw [← HKK.out]; simpa using hk2) (by rw [← HKK.out]; simpa using hk3)
                have b2 : (k != 2) = true := by simpa using hk2
                have b3 : (k != 3) = true := by simpa using hk3
                have HK' := Hid.mk (HK.out.other (j : Int))
                have hne : r ≠ w.heap.size := by omega
                have s0 : (wr.setCell ⟨r, 5, none⟩ (.int .i64 j)).cell? ⟨w.heap.size, 0, none⟩ = some (.int .u8 0) := by rw [Lib.cell_of_heap HK'.out.2.2.2.2]; rfl
                have s1 : (wr.setCell ⟨r, 5, none⟩ (.int .i64 j)).cell? ⟨w.heap.size, 1, none⟩ = some (.bool false) := by rw [Lib.cell_of_heap HK'.out.2.2.2.2]; rfl
                have s2 : (wr.setCell ⟨r, 5, none⟩ (.int .i64 j)).cell? ⟨w.heap.size, 2, none⟩ = some (.int .i32 0) := by rw [Lib.cell_of_heap HK'.out.2.2.2.2]; rfl
                have s3 : (wr.setCell ⟨r, 5, none⟩ (.int .i64 j)).cell? ⟨w.heap.size, 3, none⟩ = some (.bool false) := by rw [Lib.cell_of_heap HK'.out.2.2.2.2]; rfl
                have s4 : (wr.setCell ⟨r, 5, none⟩ (.int .i64 j)).cell? ⟨w.heap.size, 4, none⟩ = some (.int .u64 0) := by rw [Lib.cell_of_heap HK'.out.2.2.2.2]; rfl
                have s5 : (wr.setCell ⟨r, 5, none⟩ (.int .i64 j)).cell? ⟨w.heap.size, 5, none⟩ = some (.string ByteArray.empty) := by rw [Lib.cell_of_heap HK'.out.2.2.2.2]; rfl
                have s6 : (wr.setCell ⟨r, 5, none⟩ (.int .i64 j)).cell? ⟨w.heap.size, 6, none⟩ = some (.pointer none) := by rw [Lib.cell_of_heap HK'.out.2.2.2.2]; rfl
                go_wp2
                exact bodyPost_ret (v := .agg #[.int .u8 4, .bool false, .int .i32 0, .bool false, .int .u64 0, .string ByteArray.empty, .pointer (some ⟨r, 0, none⟩)]) (by simp [results, Try.results20, go_sem, r0, r1, r2, r3, r4, r5, r6]; rfl) rfl ⟨r, rfl, by rw [HO.out]; exact HK'.out.fin _ _ _ _ _ _ _⟩
          · obtain rfl : j = es.length := by omega
            have HO : Hid (otherOf es = -1) := other_none es (fun q h => HQ.out q h h)
            go_wp2
            exact bodyPost_ret (v := .agg #[.int .u8 4, .bool false, .int .i32 0, .bool false, .int .u64 0, .string ByteArray.empty, .pointer (some ⟨r, 0, none⟩)]) (by simp [results, Try.results20, go_sem, r0, r1, r2, r3, r4, r5, r6]; rfl) rfl ⟨r, rfl, by rw [HO.out]; exact HK.out.fin _ _ _ _ _ _ _⟩
end Go.Proofs.Qxb6603696a
