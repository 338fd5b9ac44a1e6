import Derived.Test.Qxb6603696aElems
import Derived.OpenShut
import Derived.ShutString
import Derived.ChangeOld
import Derived.Deep.Slices
namespace Go.Proofs.Qxb6603696a
open Go.RowKit Go.Deep

theorem cells29 : Try.prog.cellsOf 29 = 8 := by kernel_rfl
theorem cells5 : Try.prog.cellsOf 5 = 1 := by kernel_rfl
theorem cells4 : Try.prog.cellsOf 4 = 1 := by kernel_rfl
theorem cells21 : Try.prog.cellsOf 21 = 1 := by kernel_rfl
theorem cells27 : Try.prog.cellsOf 27 = 1 := by kernel_rfl
theorem cells9 : Try.prog.cellsOf 9 = 1 := by kernel_rfl
theorem cells3 : Try.prog.cellsOf 3 = 1 := by kernel_rfl

theorem eight {α : Type} : ∀ (l : List α), l.length = 8 → ∃ a b c d e f g h, l = [a, b, c, d, e, f, g, h]
  | [a, b, c, d, e, f, g, h], _ => ⟨a, b, c, d, e, f, g, h, rfl⟩

/-- One element of the slice, opened. -/
theorem open_elem {H : Type} {enc : TypeId × Value → H} {w : World} {base : Nat} {spare : Nat → Bool} {held : Bool} {n : Nat} {cs : List Value} {x : DataW H × List MemPlace} (hl : cs.length = 8)
    (h : DataW.trod enc Try.prog w base spare held n 29 cs = some x) :
    ∃ e : Elem8, cs = [.int .u8 e.k, .bool e.bo, .int .i32 e.nsec, .bool e.isI, .int .u64 e.bits, .string e.s, .bool e.ha, .int .i64 e.ot] ∧ e.s.size ≤ maxLen := by
  obtain ⟨xs, k, _, _, _, hxl, hf⟩ := DataW.trod_struct Try.underlying29 h
  obtain ⟨c0, c1, c2, c3, c4, c5, c6, c7, rfl⟩ := eight cs hl
  obtain ⟨y0, y1, y2, y3, y4, y5, y6, y7, rfl⟩ := eight xs hxl
  have g0 : DataW.trod enc Try.prog w base spare held k 5 (([c0, c1, c2, c3, c4, c5, c6, c7].drop 0).take (Try.prog.cellsOf 5)) = some y0 := hf 0 _ rfl
  rw [cells5] at g0
  replace g0 : DataW.trod enc Try.prog w base spare held k 5 [c0] = some y0 := g0
  have g1 : DataW.trod enc Try.prog w base spare held k 4 (([c0, c1, c2, c3, c4, c5, c6, c7].drop 1).take (Try.prog.cellsOf 4)) = some y1 := hf 1 _ rfl
  rw [cells4] at g1
  replace g1 : DataW.trod enc Try.prog w base spare held k 4 [c1] = some y1 := g1
  have g2 : DataW.trod enc Try.prog w base spare held k 21 (([c0, c1, c2, c3, c4, c5, c6, c7].drop 2).take (Try.prog.cellsOf 21)) = some y2 := hf 2 _ rfl
  rw [cells21] at g2
  replace g2 : DataW.trod enc Try.prog w base spare held k 21 [c2] = some y2 := g2
  have g3 : DataW.trod enc Try.prog w base spare held k 4 (([c0, c1, c2, c3, c4, c5, c6, c7].drop 3).take (Try.prog.cellsOf 4)) = some y3 := hf 3 _ rfl
  rw [cells4] at g3
  replace g3 : DataW.trod enc Try.prog w base spare held k 4 [c3] = some y3 := g3
  have g4 : DataW.trod enc Try.prog w base spare held k 27 (([c0, c1, c2, c3, c4, c5, c6, c7].drop 4).take (Try.prog.cellsOf 27)) = some y4 := hf 4 _ rfl
  rw [cells27] at g4
  replace g4 : DataW.trod enc Try.prog w base spare held k 27 [c4] = some y4 := g4
  have g5 : DataW.trod enc Try.prog w base spare held k 9 (([c0, c1, c2, c3, c4, c5, c6, c7].drop 5).take (Try.prog.cellsOf 9)) = some y5 := hf 5 _ rfl
  rw [cells9] at g5
  replace g5 : DataW.trod enc Try.prog w base spare held k 9 [c5] = some y5 := g5
  have g6 : DataW.trod enc Try.prog w base spare held k 4 (([c0, c1, c2, c3, c4, c5, c6, c7].drop 6).take (Try.prog.cellsOf 4)) = some y6 := hf 6 _ rfl
  rw [cells4] at g6
  replace g6 : DataW.trod enc Try.prog w base spare held k 4 [c6] = some y6 := g6
  have g7 : DataW.trod enc Try.prog w base spare held k 3 (([c0, c1, c2, c3, c4, c5, c6, c7].drop 7).take (Try.prog.cellsOf 3)) = some y7 := hf 7 _ rfl
  rw [cells3] at g7
  replace g7 : DataW.trod enc Try.prog w base spare held k 3 [c7] = some y7 := g7
  obtain ⟨k0, e0, _, _⟩ := DataW.trod_int Try.underlying5 g0
  obtain ⟨k1, e1, _⟩ := DataW.trod_bool Try.underlying4 g1
  obtain ⟨k2, e2, _, _⟩ := DataW.trod_int Try.underlying21 g2
  obtain ⟨k3, e3, _⟩ := DataW.trod_bool Try.underlying4 g3
  obtain ⟨k4, e4, _, _⟩ := DataW.trod_int Try.underlying27 g4
  obtain ⟨k5, e5, _, hs⟩ := DataW.trod_string Try.underlying9 g5
  obtain ⟨k6, e6, _⟩ := DataW.trod_bool Try.underlying4 g6
  obtain ⟨k7, e7, _, _⟩ := DataW.trod_int Try.underlying3 g7
  simp only [List.cons.injEq, and_true] at e0 e1 e2 e3 e4 e5 e6 e7
  subst e0 e1 e2 e3 e4 e5 e6 e7
  exact ⟨⟨k0, k1, k2, k3, k4, k5, k6, k7⟩, rfl, hs⟩

theorem choose_elem {n : Nat} {p : Nat → Elem8 → Prop} (h : ∀ i, i < n → ∃ x, p i x) : ∃ f : Nat → Elem8, ∀ i, i < n → p i (f i) :=
  @choose_lt Elem8 ⟨⟨0, false, 0, false, 0, ByteArray.empty, false, 0⟩⟩ n p h

/-- The slice of elements that came in. -/
theorem open_elems {H : Type} {enc : TypeId × Value → H} {w : World} {base : Nat} {spare : Nat → Bool} {held : Bool} {fuel : Nat} {a : Option Addr} {len cap : Nat} {x : DataW H × List MemPlace}
    (h : DataW.trod enc Try.prog w base spare held fuel 22 [.slice a len cap] = some x) : ∃ E, IsElems w a len E ∧ len ≤ maxLen := by
  rcases open_slice Try.underlying22 h with ⟨hcs, _⟩ | ⟨ad, len', cap', m, n, D, Pl, hcs, hb, hl, hm, hmm, _, hx⟩
  · simp at hcs
    obtain ⟨rfl, rfl, rfl⟩ := hcs
    exact ⟨fun _ => ⟨0, false, 0, false, 0, ByteArray.empty, false, 0⟩, Or.inl rfl, Nat.zero_le _⟩
  · simp at hcs
    obtain ⟨rfl, rfl, rfl⟩ := hcs
    have hlm : len ≤ m := by rw [hmm]; split <;> omega
    have each : ∀ i, i < len → ∃ e : Elem8, e.s.size ≤ maxLen ∧ (∀ j v, [Value.int .u8 e.k, .bool e.bo, .int .i32 e.nsec, .bool e.isI, .int .u64 e.bits, .string e.s, .bool e.ha, .int .i64 e.ot][j]? = some v → w.cell? ((ad.add (i * 8)).add j) = some v) := fun i hi => by
      obtain ⟨cs', h1, h2⟩ := hx i (by omega)
      rw [cells29] at h1
      obtain ⟨_, hlen, hcell⟩ := World.cells?_some h1
      obtain ⟨e, he, hs⟩ := open_elem hlen h2
      refine ⟨e, hs, fun j v hv => ?_⟩
      have hj : j < 8 := by
        rcases Nat.lt_or_ge j 8 with h' | h'
        · exact h'
        · rw [List.getElem?_eq_none (by simpa using h')] at hv; cases hv
      rw [hcell j hj, he]
      exact hv
    obtain ⟨E, hE⟩ := choose_elem each
    refine ⟨E, ?_, Nat.le_trans hl hm⟩
    by_cases h0 : len = 0
    · exact Or.inl h0
    · right
      obtain ⟨b, off, spot⟩ := ad
      have c0 := (hE 0 (by omega)).2 0 _ rfl
      have hspot : spot = none := by simpa [Addr.add] using World.cell?_spot c0
      subst hspot
      have hlt : b < w.heap.size := World.block_lt_of_cell? w _ c0
      have hadd : ∀ i j, ((⟨b, off, none⟩ : Addr).add (i * 8)).add j = ⟨b, off + i * 8 + j, none⟩ := fun i j => by
        unfold Addr.add
        by_cases e1 : i * 8 = 0 <;> by_cases e2 : j = 0 <;> simp [e1, e2]
      refine ⟨b, off, rfl, by simpa [Addr.add] using hlt, fun i hi => ?_⟩
      have hc := (hE i hi).2
      refine ⟨?_, ?_, ?_, ?_, ?_, ?_, ?_, ?_, (hE i hi).1⟩
      · have := hc 0 _ rfl; rw [hadd] at this; exact this
      · have := hc 1 _ rfl; rw [hadd] at this; exact this
      · have := hc 2 _ rfl; rw [hadd] at this; exact this
      · have := hc 3 _ rfl; rw [hadd] at this; exact this
      · have := hc 4 _ rfl; rw [hadd] at this; exact this
      · have := hc 5 _ rfl; rw [hadd] at this; exact this
      · have := hc 6 _ rfl; rw [hadd] at this; exact this
      · have := hc 7 _ rfl; rw [hadd] at this; exact this
end Go.Proofs.Qxb6603696a
