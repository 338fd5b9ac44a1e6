import Derived.Test.Qxb6603696aAt
namespace Go.Proofs.Qxb6603696a
open Go.RowKit

set_option maxHeartbeats 4000000 in
set_option maxRecDepth 1000000 in
theorem at_kind (r b i : Nat) (w : World) (L S : Int) (V : Nat → Value) (X : Nat → List Value) (es : List El) (oth sz : Int) (hA : ArrAt w r V oth sz) (hB : Bld w b L S V X)
    (g2 cap2 : Nat) (v2 : V 2 = .slice (some ⟨g2, 0, none⟩) es.length cap2) (x2 : X 2 = u64s (slotsOf es 0)) (x4 : X 4 = strV es) (hi : i < es.length) (hn : es.length ≤ 16384) (hk : (es[i]'hi).k ≠ 2)
    (x5 : X 5 = u8s (kindsOf es)) (g5 cap5 : Nat) (v5 : V 5 = .slice (some ⟨g5, 0, none⟩) es.length cap5) :
    Calls Try.prog 19 #[.pointer (some ⟨r, 0, none⟩), .int .i64 i] w fun e w' => e = .returned (rbk (es[i]'hi)) ∧ Below w.heap.size w w' := by
  obtain ⟨-, c1, -, c3, c4, hr⟩ := arr_cells hA
  rw [v2] at c1
  rw [v5] at c4
  obtain ⟨-, hcell2, -, -, -, hg2⟩ := hB.elem (by decide) (by decide) v2
  obtain ⟨-, hcell5, -, -, -, hg5⟩ := hB.elem (by decide) (by decide) v5
  have hs := slots_at es 0 i hi
  have ck : w.cell? ⟨g5, i, none⟩ = some (.int .u8 (es[i]'hi).k) := hcell5 i _ (by rw [x5]; simp [u8s, kindsOf, hi])
  have ci : w.cell? ⟨g2, i, none⟩ = some (.int .u64 (slotOf (es[i]'hi) (0 + nstr (es.take i)))) := hcell2 i _ (by rw [x2]; exact u64s_at _ _ _ hs)
  have hi0 : (0 : Int) ≤ (i : Int) := by omega
  have hi1 : (i : Int) < es.length := by omega
  have h40 := eqNil40
  have n42 := neqNil42
  by_cases k3 : (es[i]'hi).k = 3
  · rw [k3] at ck
    rw [show slotOf (es[i]'hi) (0 + nstr (es.take i)) = ((nstr (es.take i) : Nat) : Int) by unfold slotOf; rw [if_neg hk, if_pos k3]; simp] at ci
    have hlt := nstr_take_lt es i hi k3
    have hsn := strs_nth es i hi k3
    have hle := nstr_le es
    have hx4 : (X 4).length = nstr es := by rw [x4, strV_len]
    obtain ⟨m, hm⟩ : ∃ m, m = nstr (es.take i) := ⟨_, rfl⟩
    rw [← hm] at ci hlt hsn
    rcases own_nil hB (p := 4) (by decide) (by decide) with ⟨_, ex⟩ | ⟨g4, cap4, v4⟩
    · rw [ex] at hx4; simp at hx4; omega
    · rw [hx4] at v4
      rw [v4] at c3
      obtain ⟨-, hcell4, -, -, -, hg4⟩ := hB.elem (by decide) (by decide) v4
      obtain ⟨s, hss⟩ : ∃ s, s = (es[i]'hi).s := ⟨_, rfl⟩
      rw [← hss] at hsn
      have cs : w.cell? ⟨g4, m, none⟩ = some (.string s) := hcell4 m _ (by rw [x4]; simp [strV, hsn])
      have HR := Hid.mk (rbk_str (es[i]'hi) k3)
      rw [← hss] at HR
      have hm0 : (0 : Int) ≤ (m : Int) := by omega
      have hm1 : (m : Int) < (nstr es : Int) := by omega
      have hm2 : (nstr es : Int) ≤ 16384 := by omega
      clear hA hB v2 x2 x4 hcell2 hcell5 hcell4 hs hk k3 x5 v5 hsn hss hm v4 hx4
      go_enter Try.func19, Try.ntmps19
      go_wp2
      rw [HR.out]
      exact bodyPost_ret (v := .agg #[.int .u8 3, .bool false, .int .i32 0, .bool false, .int .u64 0, .string s, .pointer none]) (by simp [results, Try.results19, go_sem]) rfl ⟨rfl, (Below.refl _ _).alloc (Nat.le_refl _) _⟩
  · by_cases k1 : (es[i]'hi).k = 1
    · rw [k1] at ck
      have HR := Hid.mk (rbk_bool (es[i]'hi) k1)
      obtain ⟨bo, hbo⟩ : ∃ bo, bo = (es[i]'hi).bo := ⟨_, rfl⟩
      rw [show slotOf (es[i]'hi) (0 + nstr (es.take i)) = (if bo then 1 else 0) by unfold slotOf; rw [if_neg hk, if_neg k3, if_pos k1, hbo]] at ci
      rw [← hbo] at HR
      clear hA hB v2 x2 x4 hcell2 hcell5 hs hk k3 k1 x5 v5 hbo c3
      cases bo with
      | true =>
        replace ci : w.cell? ⟨g2, i, none⟩ = some (.int .u64 1) := ci
        go_enter Try.func19, Try.ntmps19
        go_wp2
        rw [HR.out]
        exact bodyPost_ret (v := .agg #[.int .u8 1, .bool true, .int .i32 0, .bool false, .int .u64 0, .string ByteArray.empty, .pointer none]) (by simp [results, Try.results19, go_sem]; rfl) rfl ⟨rfl, (Below.refl _ _).alloc (Nat.le_refl _) _⟩
      | false =>
        replace ci : w.cell? ⟨g2, i, none⟩ = some (.int .u64 0) := ci
        go_enter Try.func19, Try.ntmps19
        go_wp2
        rw [HR.out]
        exact bodyPost_ret (v := .agg #[.int .u8 1, .bool false, .int .i32 0, .bool false, .int .u64 0, .string ByteArray.empty, .pointer none]) (by simp [results, Try.results19, go_sem]; rfl) rfl ⟨rfl, (Below.refl _ _).alloc (Nat.le_refl _) _⟩
    · have HR := Hid.mk (rbk_other (es[i]'hi) k1 hk k3)
      rw [show slotOf (es[i]'hi) (0 + nstr (es.take i)) = 0 by unfold slotOf; rw [if_neg hk, if_neg k3, if_neg k1]] at ci
      obtain ⟨k, hkk⟩ : ∃ k, k = (es[i]'hi).k := ⟨_, rfl⟩
      rw [← hkk] at ck HR hk k3 k1
      have n2 : (k == 2) = false := by simpa using hk
      have n3 : (k == 3) = false := by simpa using k3
      have n1 : (k == 1) = false := by simpa using k1
      clear hA hB v2 x2 x4 hcell2 hcell5 hs hk k3 k1 x5 v5 hkk c3
      go_enter Try.func19, Try.ntmps19
      go_wp2
      rw [HR.out]
      exact bodyPost_ret (v := .agg #[.int .u8 k, .bool false, .int .i32 0, .bool false, .int .u64 0, .string ByteArray.empty, .pointer none]) (by simp [results, Try.results19, go_sem]; rfl) rfl ⟨rfl, (Below.refl _ _).alloc (Nat.le_refl _) _⟩

theorem at_any (r b i : Nat) (w : World) (L S : Int) (V : Nat → Value) (X : Nat → List Value) (es : List El) (oth sz : Int) (hA : ArrAt w r V oth sz) (hB : Bld w b L S V X) (hR : Rep V X es) (hi : i < es.length) (hn : es.length ≤ 16384) :
    Calls Try.prog 19 #[.pointer (some ⟨r, 0, none⟩), .int .i64 i] w fun e w' => e = .returned (rbk (es[i]'hi)) ∧ Below w.heap.size w w' := by
  rcases hR with ⟨rfl, _⟩ | ⟨hall, v5, v4, x4, x2, x3, g, cap, v2⟩ | ⟨hall, v5, v2, x4, g, cap, v4⟩ | ⟨x5, x2, x3, x4, ⟨g5, cap5, v5⟩, g, cap, v2⟩
  · simp at hi
  · exact at_num r b i w L S V X es oth sz hA hB g cap v2 x2 x3 hi hn (hall _ (List.getElem_mem hi)) (Or.inl v5)
  · exact at_str r b i w L S V X es oth sz hA hB hall v2 x4 g cap v4 hi
  · by_cases hk : (es[i]'hi).k = 2
    · exact at_num r b i w L S V X es oth sz hA hB g cap v2 x2 x3 hi hn hk (Or.inr ⟨x5, g5, cap5, v5⟩)
    · exact at_kind r b i w L S V X es oth sz hA hB g cap v2 x2 x4 hi hn hk x5 g5 cap5 v5
end Go.Proofs.Qxb6603696a
