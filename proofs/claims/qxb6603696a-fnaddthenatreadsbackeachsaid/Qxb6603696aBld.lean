import Derived.Deep.AppendLies
import Derived.Deep.OwnRows
import Derived.Below
import Derived.Laws.NewBlocks
import Derived.Lib.Builder
namespace Go.Proofs.Qxb6603696a
open Go.RowKit

/-- The element type of the builder's field p. -/
def ety (p : Nat) : TypeId := if p = 4 then 9 else if p = 5 then 46 else 27

/-- A family turned at one place. -/
def put {α : Type} (V : Nat → α) (p : Nat) (v : α) : Nat → α := fun q => if q = p then v else V q
theorem put_same {α : Type} (V : Nat → α) (p : Nat) (v : α) : put V p v p = v := by simp [put]
theorem put_other {α : Type} (V : Nat → α) (p : Nat) (v : α) {q : Nat} (h : q ≠ p) : put V p v q = V q := by simp [put, h]

/-- THE BUILDER IN MEMORY: its own block b; the four rows that its fields own, no two in one block. -/
structure Bld (w : World) (b : Nat) (L S : Int) (V : Nat → Value) (X : Nat → List Value) : Prop where
  blk : w.heap[b]? = some (.cells #[.int .i64 L, .int .i64 S, V 2, V 3, V 4, V 5] 44 (0, 0))
  own : ∀ p, 2 ≤ p → p < 6 → w.ownsRow (b + 1) (ety p) 1 (V p) (X p).length (X p)
  apart : ∀ p q, 2 ≤ p → p < 6 → 2 ≤ q → q < 6 → p ≠ q → ∀ j, (V p).ownBlock = some j → (V q).ownBlock ≠ some j

/-- What a step leaves alone: all blocks but the builder's and its rows'. -/
structure Step (w : World) (b : Nat) (V : Nat → Value) (w' : World) (V' : Nat → Value) : Prop where
  os : w'.os = w.os
  tape : w'.tape = w.tape
  output : w'.output = w.output
  size : w.heap.size ≤ w'.heap.size
  block : ∀ k, k < w.heap.size → k ≠ b → (∀ p, 2 ≤ p → p < 6 → (V p).ownBlock ≠ some k) → w'.heap[k]? = w.heap[k]?
  fresh : ∀ p j, 2 ≤ p → p < 6 → (V' p).ownBlock = some j → (V p).ownBlock = some j ∨ w.heap.size ≤ j

theorem Step.refl (w : World) (b : Nat) (V : Nat → Value) : Step w b V w V := ⟨rfl, rfl, rfl, Nat.le_refl _, fun _ _ _ _ => rfl, fun _ _ _ _ h => Or.inl h⟩

theorem Step.trans {w w1 w2 : World} {b : Nat} {V V1 V2 : Nat → Value} (h : Step w b V w1 V1) (k : Step w1 b V1 w2 V2) : Step w b V w2 V2 where
  os := k.os.trans h.os
  tape := k.tape.trans h.tape
  output := k.output.trans h.output
  size := Nat.le_trans h.size k.size
  block := fun i hi hb hn => (k.block i (Nat.lt_of_lt_of_le hi h.size) hb (fun p h1 h2 e => by
    rcases h.fresh p i h1 h2 e with e' | e'
    · exact hn p h1 h2 e'
    · omega)).trans (h.block i hi hb hn)
  fresh := fun p j h1 h2 e => by
    rcases k.fresh p j h1 h2 e with e' | e'
    · exact h.fresh p j h1 h2 e'
    · exact Or.inr (Nat.le_trans h.size e')

theorem Step.drew {w w1 : World} {b : Nat} {V V1 : Nat → Value} (h : Step w b V w1 V1) : Step w b V w1.drew V1 := ⟨h.os, h.tape, h.output, h.size, h.block, h.fresh⟩

theorem Step.alloc (w : World) (b : Nat) (V : Nat → Value) (o : Obj) : Step w b V (w.alloc o) V :=
  ⟨rfl, rfl, rfl, by simp, fun k hk _ _ => Below.heap_alloc _ _ _ hk, fun _ _ _ _ h => Or.inl h⟩

section
variable {w : World} {b : Nat} {L S : Int} {V : Nat → Value} {X : Nat → List Value}

theorem Bld.lt (h : Bld w b L S V X) : b < w.heap.size := (Array.getElem?_eq_some_iff.1 h.blk).1

theorem Bld.drew (h : Bld w b L S V X) : Bld w.drew b L S V X := ⟨h.blk, h.own, h.apart⟩

theorem Bld.alloc (h : Bld w b L S V X) (o : Obj) : Bld (w.alloc o) b L S V X :=
  ⟨(Below.heap_alloc _ _ _ h.lt).trans h.blk, fun p h1 h2 => (h.own p h1 h2).alloc o, h.apart⟩

theorem Bld.cell0 (h : Bld w b L S V X) : w.cell? ⟨b, 0, none⟩ = some (.int .i64 L) := by rw [Lib.cell_of_heap h.blk]; rfl
theorem Bld.cell1 (h : Bld w b L S V X) : w.cell? ⟨b, 1, none⟩ = some (.int .i64 S) := by rw [Lib.cell_of_heap h.blk]; rfl
theorem Bld.cell2 (h : Bld w b L S V X) : w.cell? ⟨b, 2, none⟩ = some (V 2) := by rw [Lib.cell_of_heap h.blk]; rfl
theorem Bld.cell3 (h : Bld w b L S V X) : w.cell? ⟨b, 3, none⟩ = some (V 3) := by rw [Lib.cell_of_heap h.blk]; rfl
theorem Bld.cell4 (h : Bld w b L S V X) : w.cell? ⟨b, 4, none⟩ = some (V 4) := by rw [Lib.cell_of_heap h.blk]; rfl
theorem Bld.cell5 (h : Bld w b L S V X) : w.cell? ⟨b, 5, none⟩ = some (V 5) := by rw [Lib.cell_of_heap h.blk]; rfl
theorem Bld.frozen (h : Bld w b L S V X) (p : Nat) : w.frozen? ⟨b, p, none⟩ = false := Lib.frozen_of_heap h.blk p

theorem Bld.base (h : Bld w b L S V X) {p j : Nat} (h1 : 2 ≤ p) (h2 : p < 6) (e : (V p).ownBlock = some j) : b + 1 ≤ j ∧ j < w.heap.size := (h.own p h1 h2).lt j e

/-- Nothing below the builder turns. -/
theorem Step.below {w' : World} {V' : Nat → Value} (s : Step w b V w' V') (h : Bld w b L S V X) : Below b w w' :=
  ⟨s.os, s.tape, s.output, s.size, fun k hk => s.block k (Nat.lt_trans hk h.lt) (by omega) (fun p h1 h2 e => by have := (h.base h1 h2 e).1; omega)⟩

/-- A field is given a new value that owns a row of its own: the old one's, grown, or a new one. -/
theorem Bld.turned (h : Bld w b L S V X) {p : Nat} (h1 : 2 ≤ p) (h2 : p < 6) {w1 : World} {v : Value} {xs : List Value} (hg : w.grownBy w1 (V p).ownBlock)
    (hown : w1.ownsRow (b + 1) (ety p) 1 v xs.length xs) (hat : ∀ j, v.ownBlock = some j → (V p).ownBlock = some j ∨ w.heap.size ≤ j) :
    Bld (w1.setCell ⟨b, p, none⟩ v) b L S (put V p v) (put X p xs) ∧ Step w b V (w1.setCell ⟨b, p, none⟩ v) (put V p v) := by
  have hbk : w1.heap[b]? = some (.cells #[.int .i64 L, .int .i64 S, V 2, V 3, V 4, V 5] 44 (0, 0)) := by
    rw [hg.block b h.lt (fun e => by have := (h.base h1 h2 e.symm).1; omega)]
    exact h.blk
  refine ⟨⟨?_, fun q q1 q2 => ?_, fun q r q1 q2 r1 r2 hne j ej => ?_⟩, hg.os, hg.tape, hg.output, by simpa [World.setCell] using hg.size, fun k hk hkb hn => ?_, fun q j q1 q2 ej => ?_⟩
  · simp only [World.setCell, Array.getElem?_modify, if_true, hbk]
    have : p = 2 ∨ p = 3 ∨ p = 4 ∨ p = 5 := by omega
    rcases this with rfl | rfl | rfl | rfl <;> rfl
  · by_cases e : q = p
    · subst e
      rw [put_same, put_same]
      exact ownsRow_setCell_below hown (by show b < b + 1; omega) _
    · rw [put_other _ _ _ e, put_other _ _ _ e]
      refine ownsRow_setCell_below ((h.own q q1 q2).kept hg ?_) (by show b < b + 1; omega) _
      cases hq : (V q).ownBlock with
      | none => exact Or.inl rfl
      | some j => exact Or.inr (fun e2 => h.apart q p q1 q2 h1 h2 e j hq e2.symm)
  · by_cases e : q = p
    · subst e
      rw [put_same] at ej
      rw [put_other _ _ _ (Ne.symm hne)]
      intro er
      rcases hat j ej with a | a
      · exact h.apart q r q1 q2 r1 r2 hne j a er
      · have := (h.base r1 r2 er).2; omega
    · rw [put_other _ _ _ e] at ej
      by_cases e2 : r = p
      · subst e2
        rw [put_same]
        intro er
        rcases hat j er with a | a
        · exact h.apart q r q1 q2 r1 r2 hne j ej a
        · have := (h.base q1 q2 ej).2; omega
      · rw [put_other _ _ _ e2]
        exact h.apart q r q1 q2 r1 r2 hne j ej
  · rw [Below.heap_setCell _ _ _ _ hkb]
    exact hg.block k hk (fun e => hn p h1 h2 e.symm)
  · by_cases e : q = p
    · subst e
      rw [put_same] at ej
      exact hat j ej
    · rw [put_other _ _ _ e] at ej
      exact Or.inl ej

/-- 'b.f = make([]T, n, cap)'. -/
theorem Bld.made (h : Bld w b L S V X) {p : Nat} (h1 : 2 ≤ p) (h2 : p < 6) (cur : Array Value) (n : Nat) (hn : n ≤ cur.size) (hm : cur.size ≤ maxLen) :
    Bld ((w.setCell ⟨b, p, none⟩ (.slice (some ⟨w.heap.size, 0, none⟩) n cur.size)).alloc (.cells cur (ety p))) b L S (put V p (.slice (some ⟨w.heap.size, 0, none⟩) n cur.size)) (put X p (cur.toList.take n)) ∧
    Step w b V ((w.setCell ⟨b, p, none⟩ (.slice (some ⟨w.heap.size, 0, none⟩) n cur.size)).alloc (.cells cur (ety p))) (put V p (.slice (some ⟨w.heap.size, 0, none⟩) n cur.size)) := by
  rw [← World.setCell_alloc_past _ _ _ _ h.lt]
  have hl : (cur.toList.take n).length = n := by simp; omega
  refine h.turned h1 h2 (World.grownBy_alloc w _ _) ?_ (fun j e => Or.inr (by simp [Value.ownBlock] at e; omega))
  rw [hl]
  exact ⟨by simp [hl], Or.inr ⟨w.heap.size, cur.size, cur, rfl, h.lt, heap_alloc_new w _, hn, hm, by simp, by simp⟩⟩

/-- The value of a field that owns a row, and its cells. -/
theorem Bld.elem (h : Bld w b L S V X) {p g n cap : Nat} (h1 : 2 ≤ p) (h2 : p < 6) (hv : V p = .slice (some ⟨g, 0, none⟩) n cap) :
    n = (X p).length ∧ (∀ i u, (X p)[i]? = some u → w.cell? ⟨g, i, none⟩ = some u) ∧ (∀ i, w.frozen? ⟨g, i, none⟩ = false) ∧ n ≤ cap ∧ b + 1 ≤ g ∧ g < w.heap.size := by
  have ho := h.own p h1 h2
  rcases ho.2 with ⟨e, _⟩ | ⟨g', cap', cur, e, hb, hg, hc1, hc2, hc3, ht⟩
  · rw [hv] at e; cases e
  · rw [hv] at e
    injection e with e1 e2 e3
    injection e1 with e1
    injection e1 with e1
    subst e1 e3
    refine ⟨e2, fun i u hu => ?_, fun i => Lib.frozen_of_heap hg i, by omega, hb, (Array.getElem?_eq_some_iff.1 hg).1⟩
    have := ho.cells (g := g) (by rw [hv]; rfl) i u hu
    rwa [show (⟨g, 0, none⟩ : Addr).add i = ⟨g, i, none⟩ by unfold Addr.add; split <;> simp_all] at this

theorem take_set {α : Type} (l : List α) (n i : Nat) (x : α) : (l.set i x).take n = (l.take n).set i x := by
  apply List.ext_getElem?
  intro j
  simp only [List.getElem?_take, List.getElem?_set, List.length_take]
  by_cases e : j < n
  · by_cases e2 : i = j
    · subst e2
      by_cases e3 : i < l.length
      · simp [e, e3]; omega
      · simp [e, e3]; omega
    · simp [e, e2]
  · by_cases e2 : i = j
    · subst e2; simp [e]; omega
    · simp [e, e2]

/-- An element of a field's row is stored. -/
theorem Bld.stored (h : Bld w b L S V X) {p g n cap : Nat} (h1 : 2 ≤ p) (h2 : p < 6) (hv : V p = .slice (some ⟨g, 0, none⟩) n cap) (i : Nat) (x : Value) :
    Bld (w.setCell ⟨g, i, none⟩ x) b L S V (put X p ((X p).set i x)) ∧ Step w b V (w.setCell ⟨g, i, none⟩ x) V := by
  obtain ⟨hn, _, _, hcap, hbg, hgl⟩ := h.elem h1 h2 hv
  refine ⟨⟨?_, fun q q1 q2 => ?_, h.apart⟩, rfl, rfl, rfl, by simp [World.setCell], fun k hk hkb hno => ?_, fun _ _ _ _ e => Or.inl e⟩
  · rw [Below.heap_setCell _ _ _ _ (by show b ≠ g; omega)]
    exact h.blk
  · by_cases e : q = p
    · subst e
      rw [put_same]
      have ho := h.own q q1 q2
      rcases ho.2 with ⟨e, _⟩ | ⟨g', cap', cur, e, hb, hg, hc1, hc2, hc3, ht⟩
      · rw [hv] at e; cases e
      · have e' := e
        rw [hv] at e'
        injection e' with e1 e2 e3
        injection e1 with e1
        injection e1 with e1
        subst e1
        refine ⟨by simp, Or.inr ⟨g, cap', cur.setIfInBounds i x, by rw [e]; simp, hb, ?_, by simpa using hc1, hc2, by simpa using hc3, ?_⟩⟩
        · simp [World.setCell, Array.getElem?_modify, hg]
        · rw [Array.toList_setIfInBounds]
          simp only [List.length_set]
          rw [take_set, ht]
    · rw [put_other _ _ _ e]
      refine (h.own q q1 q2).kept (w' := w.setCell ⟨g, i, none⟩ x) (row := some g) ⟨rfl, rfl, rfl, by simp [World.setCell], fun k hk hne => Below.heap_setCell _ _ _ _ (fun e => hne (by rw [e]))⟩ ?_
      cases hq : (V q).ownBlock with
      | none => exact Or.inl rfl
      | some j => exact Or.inr (fun e2 => h.apart q p q1 q2 h1 h2 e j hq (by rw [hv]; exact e2.symm))
  · exact Below.heap_setCell _ _ _ _ (fun e => hno p h1 h2 (by rw [hv]; simp [Value.ownBlock]; exact e.symm))

theorem Bld.congr {X' : Nat → List Value} (h : Bld w b L S V X) (e : ∀ p, 2 ≤ p → p < 6 → X p = X' p) : Bld w b L S V X' :=
  ⟨h.blk, fun p h1 h2 => by rw [← e p h1 h2]; exact h.own p h1 h2, h.apart⟩
end
end Go.Proofs.Qxb6603696a
