import Derived.Test.Qxb6602991aRd
namespace Go.Proofs.Qxb6602991a

/-- The document: what stands before, the quote, the inside, the quote, what stands behind. -/
def docL (pre E tail : List Int) : List Int := pre ++ 34 :: (E ++ 34 :: tail)

theorem nth_r (A B : List Int) (i j : Nat) (h : i = A.length + j) : nth (A ++ B) i = nth B j := by
  subst h
  unfold nth
  simp [List.getD_eq_getElem?_getD, List.getElem?_append_right]

theorem nth_l (A B : List Int) (j : Nat) (h : j < A.length) : nth (A ++ B) j = nth A j := by
  unfold nth
  simp [List.getD_eq_getElem?_getD, List.getElem?_append_left h]

theorem doc_len (pre E tail : List Int) : (docL pre E tail).length = pre.length + 1 + E.length + 1 + tail.length := by
  unfold docL; simp; omega

theorem doc_start (pre E tail : List Int) : nth (docL pre E tail) pre.length = 34 := by
  unfold docL
  rw [nth_r pre _ _ 0 (by omega)]
  rfl

theorem doc_in (pre E tail : List Int) (j : Nat) (h : j < E.length) : nth (docL pre E tail) (pre.length + 1 + j) = nth E j := by
  unfold docL
  rw [nth_r pre _ _ (1 + j) (by omega), show (34 :: (E ++ 34 :: tail)) = [34] ++ (E ++ 34 :: tail) from rfl, nth_r [34] _ _ j (by simp), nth_l E _ j h]

theorem doc_end (pre E tail : List Int) : nth (docL pre E tail) (pre.length + 1 + E.length) = 34 := by
  unfold docL
  rw [nth_r pre _ _ (1 + E.length) (by omega), show (34 :: (E ++ 34 :: tail)) = [34] ++ (E ++ 34 :: tail) from rfl, nth_r [34] _ _ E.length (by simp), nth_r E _ _ 0 (by omega)]
  rfl

theorem enc_split (l : List Int) (k : Nat) (h : k < l.length) : encL l = encL (l.take k) ++ (e1 (nth l k) ++ encL (l.drop (k + 1))) := by
  rw [← List.append_assoc, enc_next l k h]
  unfold encL
  rw [← List.flatMap_append, List.take_append_drop]

theorem enc_le (l : List Int) (k : Nat) (h : k < l.length) : (encL (l.take k)).length + (e1 (nth l k)).length ≤ (encL l).length := by
  rw [enc_split l k h]
  simp only [List.length_append]
  omega

theorem enc_step_len (l : List Int) (k : Nat) (h : k < l.length) : (encL (l.take (k + 1))).length = (encL (l.take k)).length + (e1 (nth l k)).length := by
  rw [← enc_next l k h]; simp

theorem enc_at (l : List Int) (k j : Nat) (h : k < l.length) (hj : j < (e1 (nth l k)).length) : nth (encL l) ((encL (l.take k)).length + j) = nth (e1 (nth l k)) j := by
  rw [show nth (encL l) ((encL (l.take k)).length + j) = nth (encL (l.take k) ++ (e1 (nth l k) ++ encL (l.drop (k + 1)))) ((encL (l.take k)).length + j) by rw [← enc_split l k h], nth_r _ _ _ j rfl, nth_l _ _ _ hj]

theorem low_hx (d : Nat) (h : d < 16) : Hx (lowB d) := by
  unfold Hx lowB
  split
  · left; omega
  · right; omega

/-- What str meets at the k-th byte of the body: a byte that stands for itself, or an escape. -/
theorem doc_meet (pre l tail : List Int) (k : Nat) (h : k < l.length) (hb : 0 ≤ nth l k ∧ nth l k ≤ 255) (q : Nat) (hq : q = pre.length + 1 + (encL (l.take k)).length) :
    (∃ c, nth (docL pre (encL l) tail) q = c ∧ 32 ≤ c ∧ c ≠ 34 ∧ c ≠ 92 ∧ (encL (l.take (k + 1))).length = (encL (l.take k)).length + 1 ∧ q < pre.length + 1 + (encL l).length) ∨
    (nth (docL pre (encL l) tail) q = 92 ∧ (nth (docL pre (encL l) tail) (q + 1) = 34 ∨ nth (docL pre (encL l) tail) (q + 1) = 92) ∧ (encL (l.take (k + 1))).length = (encL (l.take k)).length + 2 ∧ q + 1 < pre.length + 1 + (encL l).length) ∨
    (nth (docL pre (encL l) tail) q = 92 ∧ nth (docL pre (encL l) tail) (q + 1) = 117 ∧ (∀ j, j < 4 → Hx (nth (docL pre (encL l) tail) (q + 1 + 1 + j))) ∧ (encL (l.take (k + 1))).length = (encL (l.take k)).length + 6 ∧ q + 5 < pre.length + 1 + (encL l).length) := by
  have hle := enc_le l k h
  have hst := enc_step_len l k h
  have hat : ∀ j, j < (e1 (nth l k)).length → nth (docL pre (encL l) tail) (q + j) = nth (e1 (nth l k)) j := fun j hj => by
    rw [hq, show pre.length + 1 + (encL (l.take k)).length + j = pre.length + 1 + ((encL (l.take k)).length + j) by omega, doc_in _ _ _ _ (by omega), enc_at l k j h hj]
  obtain ⟨y, hy⟩ : ∃ y, y = nth l k := ⟨_, rfl⟩
  rw [← hy] at hle hst hat hb
  by_cases k34 : y = 34
  · have ey : e1 y = [92, 34] := by unfold e1; rw [if_pos k34]
    rw [ey] at hle hst hat
    refine Or.inr (Or.inl ⟨hat 0 (by simp), Or.inl (hat 1 (by simp)), hst, ?_⟩)
    simp at hle; omega
  · by_cases k92 : y = 92
    · have ey : e1 y = [92, 92] := by unfold e1; rw [if_neg k34, if_pos k92]
      rw [ey] at hle hst hat
      refine Or.inr (Or.inl ⟨hat 0 (by simp), Or.inr (hat 1 (by simp)), hst, ?_⟩)
      simp at hle; omega
    · by_cases k32 : y < 32
      · have ey : e1 y = [92, 117, 48, 48, lowB (y / 16).toNat, lowB (y % 16).toNat] := by unfold e1; rw [if_neg k34, if_neg k92, if_pos k32]
        rw [ey] at hle hst hat
        refine Or.inr (Or.inr ⟨hat 0 (by simp), hat 1 (by simp), fun j hj => ?_, hst, ?_⟩)
        · have : j = 0 ∨ j = 1 ∨ j = 2 ∨ j = 3 := by omega
          rcases this with rfl | rfl | rfl | rfl
          · rw [show q + 1 + 1 + 0 = q + 2 by omega, hat 2 (by simp)]; exact (show Hx 48 from Or.inl ⟨by decide, by decide⟩)
          · rw [show q + 1 + 1 + 1 = q + 3 by omega, hat 3 (by simp)]; exact (show Hx 48 from Or.inl ⟨by decide, by decide⟩)
          · rw [show q + 1 + 1 + 2 = q + 4 by omega, hat 4 (by simp)]; exact low_hx _ (by omega)
          · rw [show q + 1 + 1 + 3 = q + 5 by omega, hat 5 (by simp)]; exact low_hx _ (by omega)
        · simp at hle; omega
      · have ey : e1 y = [y] := by unfold e1; rw [if_neg k34, if_neg k92, if_neg k32]
        rw [ey] at hle hst hat
        refine Or.inl ⟨y, hat 0 (by simp), by omega, k34, k92, hst, ?_⟩
        simp at hle; omega
end Go.Proofs.Qxb6602991a
