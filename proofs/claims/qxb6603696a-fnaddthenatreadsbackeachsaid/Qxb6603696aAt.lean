import Derived.Test.Qxb6603696aBits
import Derived.Test.Qxb6603696aArr
namespace Go.Proofs.Qxb6603696a
open Go.RowKit

theorem slots_at (es : List El) : ∀ (c i : Nat) (h : i < es.length), (slotsOf es c)[i]? = some (slotOf (es[i]'h) (c + nstr (es.take i))) := by
  induction es with
  | nil => intro c i h; simp at h
  | cons e es ih =>
    intro c i h
    cases i with
    | zero => simp [slotsOf, nstr]
    | succ i =>
      rw [slotsOf, List.getElem?_cons_succ, ih _ i (by simpa using h)]
      congr 2
      simp only [List.take_succ_cons, nstr, List.filter_cons]
      by_cases hs : isStr e = true
      · simp [hs]; omega
      · simp [hs]

theorem strs_nth (es : List El) : ∀ (i : Nat) (h : i < es.length), (es[i]'h).k = 3 → (strsOf es)[nstr (es.take i)]? = some (es[i]'h).s := by
  induction es with
  | nil => intro i h; simp at h
  | cons e es ih =>
    intro i h hk
    cases i with
    | zero =>
      have : e.k = 3 := by simpa using hk
      simp [strsOf, nstr, isStr, this]
    | succ i =>
      have := ih i (by simpa using h) (by simpa using hk)
      simp only [List.take_succ_cons, nstr, strsOf, List.filter_cons] at this ⊢
      by_cases hs : isStr e = true
      · simp [hs]; simpa using this
      · simp [hs]; simpa using this

theorem nstr_take_lt (es : List El) (i : Nat) (h : i < es.length) (hk : (es[i]'h).k = 3) : nstr (es.take i) < nstr es := by
  have := strs_nth es i h hk
  have h2 : nstr (es.take i) < (strsOf es).length := by
    rcases Nat.lt_or_ge (nstr (es.take i)) (strsOf es).length with h' | h'
    · exact h'
    · rw [List.getElem?_eq_none h'] at this; cases this
  simpa [strsOf, nstr] using h2

theorem nstr_all (es : List El) (h : ∀ e ∈ es, e.k = 3) : nstr es = es.length := by
  unfold nstr
  rw [List.filter_eq_self.2 (fun e he => by simp [isStr, h e he])]

/-- What an array's element reads back as. -/
def rbk (e : El) : Value := .agg #[.int .u8 e.k, .bool (decide (e.k = 1) && e.bo), .int .i32 0, .bool (flagOf e), .int .u64 (if e.k = 2 then e.bits else 0), .string (if e.k = 3 then e.s else ByteArray.empty), .pointer none]

set_option maxHeartbeats 2000000 in
set_option maxRecDepth 1000000 in
theorem strVal_any (s : ByteArray) (w : World) : Calls Try.prog 26 #[.string s] w fun e w' => e = .returned (.agg #[.int .u8 3, .bool false, .int .i32 0, .bool false, .int .u64 0, .string s, .pointer none]) ∧ Below w.heap.size w w' := by
  go_enter Try.func26, Try.ntmps26
  go_wp2
  exact bodyPost_ret (v := .agg #[.int .u8 3, .bool false, .int .i32 0, .bool false, .int .u64 0, .string s, .pointer none]) (by simp [results, Try.results26, go_sem]) rfl ⟨rfl, (Below.refl _ _).alloc (Nat.le_refl _) _⟩

theorem box_cells {w : World} {h : Nat} {a0 a1 a2 a3 a4 a5 a6 : Value} (hb : w.heap[h]? = some (.cells #[a0, a1, a2, a3, a4, a5, a6] 50 (0, 0))) :
    w.cell? ⟨h, 0, none⟩ = some a0 ∧ w.cell? ⟨h, 1, none⟩ = some a1 ∧ w.cell? ⟨h, 2, none⟩ = some a2 ∧ w.cell? ⟨h, 3, none⟩ = some a3 ∧ w.cell? ⟨h, 4, none⟩ = some a4 ∧ w.cell? ⟨h, 5, none⟩ = some a5 ∧ w.cell? ⟨h, 6, none⟩ = some a6 ∧
    w.frozen? ⟨h, 0, none⟩ = false ∧ w.frozen? ⟨h, 1, none⟩ = false ∧ w.frozen? ⟨h, 2, none⟩ = false ∧ w.frozen? ⟨h, 3, none⟩ = false ∧ w.frozen? ⟨h, 4, none⟩ = false ∧ w.frozen? ⟨h, 5, none⟩ = false ∧ w.frozen? ⟨h, 6, none⟩ = false :=
  ⟨by rw [Lib.cell_of_heap hb]; rfl, by rw [Lib.cell_of_heap hb]; rfl, by rw [Lib.cell_of_heap hb]; rfl, by rw [Lib.cell_of_heap hb]; rfl, by rw [Lib.cell_of_heap hb]; rfl, by rw [Lib.cell_of_heap hb]; rfl, by rw [Lib.cell_of_heap hb]; rfl,
    Lib.frozen_of_heap hb 0, Lib.frozen_of_heap hb 1, Lib.frozen_of_heap hb 2, Lib.frozen_of_heap hb 3, Lib.frozen_of_heap hb 4, Lib.frozen_of_heap hb 5, Lib.frozen_of_heap hb 6⟩

/-- Seven stores into a new block leave what was there. -/
theorem seven_below {w wr : World} (h : Below w.heap.size w wr) (v0 v1 v2 v3 v4 v5 v6 : Value) :
    Below w.heap.size w (((((((wr.setCell ⟨w.heap.size, 0, none⟩ v0).setCell ⟨w.heap.size, 1, none⟩ v1).setCell ⟨w.heap.size, 2, none⟩ v2).setCell ⟨w.heap.size, 3, none⟩ v3).setCell ⟨w.heap.size, 4, none⟩ v4).setCell ⟨w.heap.size, 5, none⟩ v5).setCell ⟨w.heap.size, 6, none⟩ v6) :=
  ((((((h.setCell (p := ⟨w.heap.size, 0, none⟩) (Nat.le_refl _) v0).setCell (p := ⟨w.heap.size, 1, none⟩) (Nat.le_refl _) v1).setCell (p := ⟨w.heap.size, 2, none⟩) (Nat.le_refl _) v2).setCell (p := ⟨w.heap.size, 3, none⟩) (Nat.le_refl _) v3).setCell (p := ⟨w.heap.size, 4, none⟩) (Nat.le_refl _) v4).setCell (p := ⟨w.heap.size, 5, none⟩) (Nat.le_refl _) v5).setCell (p := ⟨w.heap.size, 6, none⟩) (Nat.le_refl _) v6

theorem arr_cells {w : World} {r : Nat} {V : Nat → Value} {oth sz : Int} (h : ArrAt w r V oth sz) :
    w.cell? ⟨r, 0, none⟩ = some (.slice none 0 0) ∧ w.cell? ⟨r, 1, none⟩ = some (V 2) ∧ w.cell? ⟨r, 2, none⟩ = some (V 3) ∧ w.cell? ⟨r, 3, none⟩ = some (V 4) ∧ w.cell? ⟨r, 4, none⟩ = some (V 5) ∧ r < w.heap.size :=
  ⟨by rw [Lib.cell_of_heap h]; rfl, by rw [Lib.cell_of_heap h]; rfl, by rw [Lib.cell_of_heap h]; rfl, by rw [Lib.cell_of_heap h]; rfl, by rw [Lib.cell_of_heap h]; rfl, (Array.getElem?_eq_some_iff.1 h).1⟩

set_option maxHeartbeats 4000000 in
set_option maxRecDepth 1000000 in
theorem at_str (r b i : Nat) (w : World) (L S : Int) (V : Nat → Value) (X : Nat → List Value) (es : List El) (oth sz : Int) (hA : ArrAt w r V oth sz) (hB : Bld w b L S V X) (hall : ∀ e ∈ es, e.k = 3) (v2 : V 2 = .slice none 0 0)
    (x4 : X 4 = strV es) (g cap : Nat) (v4 : V 4 = .slice (some ⟨g, 0, none⟩) es.length cap) (hi : i < es.length) :
    Calls Try.prog 19 #[.pointer (some ⟨r, 0, none⟩), .int .i64 i] w fun e w' => e = .returned (rbk (es[i]'hi)) ∧ Below w.heap.size w w' := by
  obtain ⟨-, c1, -, c3, -, hr⟩ := arr_cells hA
  rw [v2] at c1
  rw [v4] at c3
  obtain ⟨_, hcell, _, _, _, hg⟩ := hB.elem (by decide) (by decide) v4
  have hk : (es[i]'hi).k = 3 := hall _ (List.getElem_mem hi)
  have hs := strs_nth es i hi hk
  rw [nstr_all (es.take i) (fun e he => hall e (List.mem_of_mem_take he)), List.length_take, Nat.min_eq_left (by omega)] at hs
  obtain ⟨s, hss⟩ : ∃ s, s = (es[i]'hi).s := ⟨_, rfl⟩
  rw [← hss] at hs
  have ci : w.cell? ⟨g, i, none⟩ = some (.string s) := hcell i _ (by rw [x4]; simp [strV, hs])
  have HR : Hid (rbk (es[i]'hi) = .agg #[.int .u8 3, .bool false, .int .i32 0, .bool false, .int .u64 0, .string s, .pointer none]) := by
    show rbk _ = _
    unfold rbk flagOf; rw [hk, ← hss]; simp
  have hi0 : (0 : Int) ≤ (i : Int) := by omega
  have hi1 : (i : Int) < es.length := by omega
  clear hA hB hall v2 x4 v4 hcell hk hs hss
  have h40 := eqNil40
  have n41 := neqNil41
  go_enter Try.func19, Try.ntmps19
  go_wp2_with (go_at_call 26; refine (strVal_any s _).mono ?_; rintro e w' ⟨rfl, hb⟩; have hbk : w'.heap[w.heap.size]? = _ := (hb.block w.heap.size (by simp)).trans (heap_alloc_new w _); obtain ⟨r0, r1, r2, r3, r4, r5, r6, q0, q1, q2, q3, q4, q5, q6⟩ := box_cells hbk; have HB := Hid.mk (((Below.refl _ _).alloc (Nat.le_refl _) _).trans (hb.mono (show w.heap.size ≤ _ by simp))); clear hbk hb)
  rw [HR.out]
  exact bodyPost_ret (v := .agg #[.int .u8 3, .bool false, .int .i32 0, .bool false, .int .u64 0, .string s, .pointer none]) (by simp [results, Try.results19, go_sem, r0, r1, r2, r3, r4, r5, r6]) rfl ⟨rfl, seven_below HB.out _ _ _ _ _ _ _⟩

theorem rbk_num (e : El) (h : e.k = 2) : rbk e = .agg #[.int .u8 2, .bool false, .int .i32 0, .bool (flagOf e), .int .u64 e.bits, .string ByteArray.empty, .pointer none] := by
  unfold rbk; rw [h]; simp
theorem rbk_str (e : El) (h : e.k = 3) : rbk e = .agg #[.int .u8 3, .bool false, .int .i32 0, .bool false, .int .u64 0, .string e.s, .pointer none] := by
  unfold rbk flagOf; rw [h]; simp
theorem rbk_bool (e : El) (h : e.k = 1) : rbk e = .agg #[.int .u8 1, .bool e.bo, .int .i32 0, .bool false, .int .u64 0, .string ByteArray.empty, .pointer none] := by
  unfold rbk flagOf; rw [h]; simp
theorem rbk_other (e : El) (h1 : e.k ≠ 1) (h2 : e.k ≠ 2) (h3 : e.k ≠ 3) : rbk e = .agg #[.int .u8 e.k, .bool false, .int .i32 0, .bool false, .int .u64 0, .string ByteArray.empty, .pointer none] := by
  unfold rbk flagOf; simp [h1, h2, h3]

/-- A number's element, whether the kinds are kept or not. -/
theorem u64s_at (l : List Int) (i : Nat) (x : Int) (h : l[i]? = some x) : (u64s l)[i]? = some (.int .u64 x) := by simp [u64s, h]

set_option maxHeartbeats 4000000 in
set_option maxRecDepth 1000000 in
theorem at_num (r b i : Nat) (w : World) (L S : Int) (V : Nat → Value) (X : Nat → List Value) (es : List El) (oth sz : Int) (hA : ArrAt w r V oth sz) (hB : Bld w b L S V X)
    (g2 cap2 : Nat) (v2 : V 2 = .slice (some ⟨g2, 0, none⟩) es.length cap2) (x2 : X 2 = u64s (slotsOf es 0)) (x3 : X 3 = u64s (intsOf es)) (hi : i < es.length) (hn : es.length ≤ 16384) (hk : (es[i]'hi).k = 2)
    (h5 : V 5 = .slice none 0 0 ∨ (X 5 = u8s (kindsOf es) ∧ ∃ g cap, V 5 = .slice (some ⟨g, 0, none⟩) es.length cap)) :
    Calls Try.prog 19 #[.pointer (some ⟨r, 0, none⟩), .int .i64 i] w fun e w' => e = .returned (rbk (es[i]'hi)) ∧ Below w.heap.size w w' := by
  obtain ⟨-, c1, c2, -, c4, hr⟩ := arr_cells hA
  rw [v2] at c1
  obtain ⟨-, hcell2, -, -, -, hg2⟩ := hB.elem (by decide) (by decide) v2
  have hs := slots_at es 0 i hi
  obtain ⟨bits, hbits⟩ : ∃ x, x = (es[i]'hi).bits := ⟨_, rfl⟩
  rw [show slotOf (es[i]'hi) (0 + nstr (es.take i)) = bits by unfold slotOf; rw [if_pos hk, hbits]] at hs
  have ci : w.cell? ⟨g2, i, none⟩ = some (.int .u64 bits) := hcell2 i _ (by rw [x2]; exact u64s_at _ _ _ hs)
  have hil := intsOf_len es
  have hx3 : (X 3).length = (es.length + 63) / 64 := by rw [x3]; simp [u64s, hil]
  rcases own_nil hB (p := 3) (by decide) (by decide) with ⟨_, ex⟩ | ⟨g3, cap3, v3⟩
  · rw [ex] at hx3; simp at hx3; omega
  · rw [hx3] at v3
    rw [v3] at c2
    obtain ⟨-, hcell3, -, -, -, hg3⟩ := hB.elem (by decide) (by decide) v3
    obtain ⟨y, hy⟩ : ∃ y, y = (intsOf es).getD (i / 64) 0 := ⟨_, rfl⟩
    have hq : i / 64 < (intsOf es).length := by omega
    have cy : w.cell? ⟨g3, i / 64, none⟩ = some (.int .u64 y) := hcell3 (i / 64) _ (by rw [x3]; exact u64s_at _ _ _ (by rw [hy]; simp [List.getD, hq]))
    have HF : Hid ((Go.bits BinOp.and IntKind.u64 y (IntKind.u64.wrap (2 ^ (i % 64))) != 0) = flagOf (es[i]'hi)) := by
      have := ints_bits es i hi
      unfold bitAt bitB at this
      rw [← hy] at this
      exact this
    have HR := Hid.mk (rbk_num (es[i]'hi) hk)
    rw [← hbits] at HR
    have hi0 : (0 : Int) ≤ (i : Int) := by omega
    have hi1 : (i : Int) < es.length := by omega
    have hq0 : (0 : Int) ≤ (i : Int) / 64 := by omega
    have hq1 : (i : Int) / 64 < (((es.length + 63) / 64 : Nat) : Int) := by omega
    have hqn : ((i : Int) / 64).toNat = i / 64 := by omega
    have h40 := eqNil40
    have n42 := neqNil42
    rcases h5 with v5 | ⟨x5, g5, cap5, v5⟩
    · rw [v5] at c4
      clear hA hB v2 x2 x3 hcell2 hcell3 hs hbits hk hil hx3 v3 hy hq v5
      go_enter Try.func19, Try.ntmps19
      go_wp2
      go_region
      go_wp2
      rw [HR.out, ← HF.out]
      exact bodyPost_ret (v := .agg #[.int .u8 2, .bool false, .int .i32 0, .bool (Go.bits BinOp.and IntKind.u64 y (IntKind.u64.wrap (2 ^ (i % 64))) != 0), .int .u64 bits, .string ByteArray.empty, .pointer none]) (by simp [results, Try.results19, go_sem]; rfl) rfl ⟨rfl, ((Below.refl _ _).alloc (Nat.le_refl _) _).drew⟩
    · rw [v5] at c4
      obtain ⟨-, hcell5, -, -, -, hg5⟩ := hB.elem (by decide) (by decide) v5
      have ck : w.cell? ⟨g5, i, none⟩ = some (.int .u8 2) := hcell5 i _ (by rw [x5, show (u8s (kindsOf es))[i]? = some (.int .u8 (es[i]'hi).k) by simp [u8s, kindsOf, hi], hk])
      clear hA hB v2 x2 x3 hcell2 hcell3 hcell5 hs hbits hk hil hx3 v3 hy hq v5 x5
      go_enter Try.func19, Try.ntmps19
      go_wp2
      go_region
      go_wp2
      rw [HR.out, ← HF.out]
      exact bodyPost_ret (v := .agg #[.int .u8 2, .bool false, .int .i32 0, .bool (Go.bits BinOp.and IntKind.u64 y (IntKind.u64.wrap (2 ^ (i % 64))) != 0), .int .u64 bits, .string ByteArray.empty, .pointer none]) (by simp [results, Try.results19, go_sem]; rfl) rfl ⟨rfl, ((Below.refl _ _).alloc (Nat.le_refl _) _).drew⟩
end Go.Proofs.Qxb6603696a
