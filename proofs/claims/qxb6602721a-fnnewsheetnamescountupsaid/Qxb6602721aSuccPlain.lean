import Derived.Test.Qxb6602721aSheetPlain
namespace Go.Proofs.Qxb6602721a.Sheet
open Go

/-- The odometer, the last letter first. -/
def inc : List UInt8 → List UInt8
  | [] => [65]
  | x :: xs => if x = 90 then 65 :: inc xs else (x + 1) :: xs

/-- The next name. -/
def succL (l : List UInt8) : List UInt8 := (inc l.reverse).reverse

theorem ch_toNat (k : Nat) : (ch k).toNat = 65 + k % 26 := by
  unfold ch; rw [UInt8.toNat_ofNat']; omega

theorem u8_ext {a b : UInt8} (h : a.toNat = b.toNat) : a = b := UInt8.toNat_inj.1 h

theorem inc_nmb : ∀ (f n : Nat), n ≤ f → inc (nmb n).reverse = (nmb (n + 1)).reverse := by
  intro f
  induction f with
  | zero =>
    intro n h
    obtain rfl : n = 0 := by omega
    rw [nmb_succ, nmb_zero]; rfl
  | succ f ih =>
    intro n h
    cases n with
    | zero => rw [nmb_succ, nmb_zero]; rfl
    | succ m =>
      have e1 : (nmb (m + 1)).reverse = ch m :: (nmb (m / 26)).reverse := by rw [nmb_succ]; simp
      have e2 : (nmb (m + 1 + 1)).reverse = ch (m + 1) :: (nmb ((m + 1) / 26)).reverse := by rw [nmb_succ]; simp
      rw [e1, e2, inc]
      by_cases hz : m % 26 = 25
      · rw [if_pos (u8_ext (by rw [ch_toNat, hz]; rfl)), ih (m / 26) (by omega), show (m + 1) / 26 = m / 26 + 1 by omega]
        congr 1
        exact u8_ext (by rw [ch_toNat, show (m + 1) % 26 = 0 by omega]; rfl)
      · rw [if_neg (fun e => by have := congrArg UInt8.toNat e; rw [ch_toNat] at this; have h90 : (90 : UInt8).toNat = 90 := rfl; omega), show (m + 1) / 26 = m / 26 by omega]
        congr 1
        refine u8_ext ?_
        rw [UInt8.toNat_add, ch_toNat, ch_toNat]
        have h1 : (1 : UInt8).toNat = 1 := rfl
        rw [h1]
        omega

theorem succ_name (i : Nat) : succL (name i) = name (i + 1) := by
  unfold succL
  rw [name_eq, inc_nmb (i + 1) (i + 1) (Nat.le_refl _), List.reverse_reverse]
  rfl

theorem inc_rep (k : Nat) (x : UInt8) (r : List UInt8) (hx : x ≠ 90) : inc (List.replicate k 90 ++ x :: r) = List.replicate k 65 ++ (x + 1) :: r := by
  induction k with
  | zero => simp [inc, hx]
  | succ k ih => rw [List.replicate_succ, List.replicate_succ, List.cons_append, List.cons_append, inc, if_pos rfl, ih]

theorem inc_all (k : Nat) : inc (List.replicate k 90) = List.replicate k 65 ++ [65] := by
  induction k with
  | zero => rfl
  | succ k ih => rw [List.replicate_succ, List.replicate_succ, List.cons_append, inc, if_pos rfl, ih]

/-- Letters all of them. -/
def Letters (l : List UInt8) : Prop := ∀ x ∈ l, 65 ≤ x.toNat ∧ x.toNat ≤ 90

theorem letters_nm (f : Nat) : ∀ n, Letters (nm f n) := by
  induction f with
  | zero => intro n x hx; simp [nm] at hx
  | succ f ih =>
    intro n
    cases n with
    | zero => rw [nm_zero]; intro x hx; simp at hx
    | succ n =>
      rw [nm_succ]
      intro x hx
      rcases List.mem_append.1 hx with h | h
      · exact ih _ x h
      · have : x = ch n := by simpa using h
        rw [this, ch_toNat]; omega

theorem letters_name (i : Nat) : Letters (name i) := letters_nm _ _

/-- The byte at place t of l, as a number. -/
def num (l : List UInt8) (t : Nat) : Int := ((l.getD t 0).toNat : Int)

theorem num_at (l : List UInt8) (t : Nat) (h : t < (st l).size) : (((st l)[t]'h).toNat : Int) = num l t := by
  have h' : t < l.length := by simpa [st, ByteArray.size] using h
  unfold num
  simp [List.getD, h']
  rfl

theorem st_size (l : List UInt8) : (st l).size = l.length := by simp [st, ByteArray.size]

/-- The byte of a number. -/
def by8' (n : Int) : UInt8 := UInt8.ofNat n.toNat

theorem by8_num (l : List UInt8) (t : Nat) : by8' (num l t) = l.getD t 0 := by
  unfold by8' num
  simp

/-- What the row holds when the scan from the right stands at j. -/
def back (l : List UInt8) (j t : Nat) : Int := if t < j then num l t else 65

theorem succ_roll (l : List UInt8) (h : ∀ t, t < l.length → num l t = 90) : succL l = 65 :: (List.range l.length).map (fun t => by8' (back l 0 t)) := by
  have hl : l = List.replicate l.length 90 := by
    refine List.eq_replicate_iff.2 ⟨rfl, fun x hx => ?_⟩
    obtain ⟨t, ht, rfl⟩ := List.mem_iff_getElem.1 hx
    have := h t ht
    unfold num at this
    simp [List.getD, ht] at this
    exact u8_ext (by have h90 : (90 : UInt8).toNat = 90 := rfl; omega)
  have hm : (List.range l.length).map (fun t => by8' (back l 0 t)) = List.replicate l.length 65 := by
    refine List.eq_replicate_iff.2 ⟨by simp, fun x hx => ?_⟩
    obtain ⟨t, ht, rfl⟩ := List.mem_map.1 hx
    simp [back, by8']
  rw [hm]
  unfold succL
  have hr := congrArg List.reverse hl
  rw [hr, List.reverse_replicate, inc_all]
  simp

theorem succ_found (l : List UInt8) (j : Nat) (hj : j < l.length) (h : ∀ t, j < t → t < l.length → num l t = 90) (hne : num l j ≠ 90) (hlt : num l j ≤ 90) :
    succL l = (List.range l.length).map (fun t => by8' (if t = j then num l j + 1 else back l (j + 1) t)) := by
  have hd : l.drop (j + 1) = List.replicate (l.length - (j + 1)) 90 := by
    refine List.eq_replicate_iff.2 ⟨by simp, fun x hx => ?_⟩
    obtain ⟨t, ht, rfl⟩ := List.mem_iff_getElem.1 hx
    rw [List.getElem_drop]
    have ht' : j + 1 + t < l.length := by simp at ht; omega
    have := h (j + 1 + t) (by omega) ht'
    unfold num at this
    simp [List.getD, ht'] at this
    exact u8_ext (by have h90 : (90 : UInt8).toNat = 90 := rfl; omega)
  have hl : l = l.take j ++ l[j] :: List.replicate (l.length - (j + 1)) 90 := by
    rw [← hd, List.getElem_cons_drop, List.take_append_drop]
  have hx : l[j] ≠ 90 := fun e => hne (by unfold num; simp [List.getD, hj, e])
  have hv : (l[j].toNat : Int) ≤ 90 := by unfold num at hlt; simpa [List.getD, hj] using hlt
  have hs : succL l = l.take j ++ (l[j] + 1) :: List.replicate (l.length - (j + 1)) 65 := by
    unfold succL
    have hr := congrArg List.reverse hl
    rw [hr, List.reverse_append, List.reverse_cons, List.reverse_replicate, List.append_assoc, List.singleton_append, inc_rep _ _ _ hx]
    simp
  rw [hs]
  refine List.ext_getElem (by simp; omega) fun t h1 h2 => ?_
  have ht : t < l.length := by simpa using h2
  rw [List.getElem_map, List.getElem_range]
  by_cases e1 : t < j
  · rw [List.getElem_append_left (by simp; omega), if_neg (by omega), List.getElem_take]
    unfold back
    rw [if_pos (by omega), by8_num]
    simp [List.getD, ht]
  · rw [List.getElem_append_right (by simp; omega)]
    have hlen : (l.take j).length = j := by simp; omega
    by_cases e2 : t = j
    · subst e2
      rw [if_pos rfl]
      simp only [hlen, Nat.sub_self, List.getElem_cons_zero]
      unfold by8' num
      simp only [List.getD, List.getElem?_eq_getElem hj, Option.getD_some]
      refine u8_ext ?_
      rw [UInt8.toNat_add, UInt8.toNat_ofNat']
      have h1 : (1 : UInt8).toNat = 1 := rfl
      rw [h1]
      omega
    · rw [if_neg e2]
      have e3 : t - (l.take j).length = (t - j - 1) + 1 := by rw [hlen]; omega
      simp only [e3, List.getElem_cons_succ, List.getElem_replicate]
      unfold back
      rw [if_neg (by omega)]
      rfl
end Go.Proofs.Qxb6602721a.Sheet
