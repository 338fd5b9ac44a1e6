import Derived.Test.Qxb6603696aRep
import Derived.Laws.BitsAllLaws
namespace Go.Proofs.Qxb6603696a
open Go.RowKit

/-- Is bit m of the word y set, as the model reckons it? -/
def bitB (y : Int) (m : Nat) : Bool := Go.bits BinOp.and IntKind.u64 y (IntKind.u64.wrap (2 ^ m)) != 0

/-- A word of 64 bits. -/
def Word (y : Int) : Prop := 0 ≤ y ∧ y < 18446744073709551616

theorem pow_lt64 (m : Nat) (h : m < 64) : 2 ^ m < 18446744073709551616 := by
  have : 2 ^ m < 2 ^ 64 := Nat.pow_lt_pow_right (by decide) h
  simpa using this

theorem wrap_pow (m : Nat) (h : m < 64) : IntKind.u64.wrap ((2 : Int) ^ m) = ((2 ^ m : Nat) : Int) := by
  have h1 := pow_lt64 m h
  have e : ((2 : Int) ^ m) = ((2 ^ m : Nat) : Int) := by simp
  rw [e]
  generalize 2 ^ m = q at h1
  rw [IntKind.wrap_u64]
  omega

theorem and_pow (n m : Nat) : n &&& 2 ^ m = if n.testBit m then 2 ^ m else 0 := by
  apply Nat.eq_of_testBit_eq
  intro i
  rw [Nat.testBit_and, Nat.testBit_two_pow]
  by_cases h : m = i
  · subst h
    cases hb : n.testBit m
    · simp
    · simp
  · rw [decide_eq_false h, Bool.and_false]
    split
    · rw [Nat.testBit_two_pow, decide_eq_false h]
    · simp

theorem bitB_eq (y : Int) (m : Nat) (hy : Word y) (h : m < 64) : bitB y m = y.toNat.testBit m := by
  obtain ⟨n, rfl⟩ : ∃ n : Nat, y = n := ⟨y.toNat, by have := hy.1; omega⟩
  have hn : n < 18446744073709551616 := by have := hy.2; omega
  unfold bitB
  rw [wrap_pow m h, u64_and_nat n (2 ^ m) hn (pow_lt64 m h)]
  rw [and_pow, Int.toNat_natCast]
  have hp : 0 < 2 ^ m := Nat.two_pow_pos m
  generalize 2 ^ m = q at hp
  cases hb : n.testBit m
  · rfl
  · simp
    omega

theorem orBit_eq (y : Int) (m : Nat) (hy : Word y) (h : m < 64) : orBit y m = ((y.toNat ||| 2 ^ m : Nat) : Int) := by
  obtain ⟨n, rfl⟩ : ∃ n : Nat, y = n := ⟨y.toNat, by have := hy.1; omega⟩
  have hn : n < 18446744073709551616 := by have := hy.2; omega
  unfold orBit
  rw [wrap_pow m h, u64_or_nat n (2 ^ m) hn (pow_lt64 m h)]
  simp

theorem orBit_word (y : Int) (m : Nat) (hy : Word y) (h : m < 64) : Word (orBit y m) := by
  rw [orBit_eq y m hy h]
  have h1 : y.toNat < 2 ^ 64 := by have := hy.2; have := hy.1; simp; omega
  have h2 : 2 ^ m < 2 ^ 64 := Nat.pow_lt_pow_right (by decide) h
  have := Nat.or_lt_two_pow h1 h2
  constructor
  · omega
  · have e : (2 : Nat) ^ 64 = 18446744073709551616 := by decide
    omega

theorem bitB_or (y : Int) (m j : Nat) (hy : Word y) (h : m < 64) (hj : j < 64) : bitB (orBit y m) j = (bitB y j || decide (m = j)) := by
  rw [bitB_eq _ j (orBit_word y m hy h) hj, bitB_eq y j hy hj, orBit_eq y m hy h]
  simp only [Int.toNat_natCast, Nat.testBit_or, Nat.testBit_two_pow]

theorem bitB_zero (m : Nat) (h : m < 64) : bitB 0 m = false := by
  rw [bitB_eq 0 m ⟨by decide, by decide⟩ h]
  simp

/-- Bit j of the words. -/
def bitAt (il : List Int) (j : Nat) : Bool := bitB (il.getD (j / 64) 0) (j % 64)
def Words (il : List Int) : Prop := ∀ i, Word (il.getD i 0)

theorem room_getD (il : List Int) (n i : Nat) : (intsRoom il n).getD i 0 = il.getD i 0 := by
  unfold intsRoom
  split
  · simp only [List.getD]
    by_cases h : i < il.length
    · rw [List.getElem?_append_left h]
    · have hn : il[i]? = none := List.getElem?_eq_none (by omega)
      rw [List.getElem?_append_right (by omega), hn]
      by_cases h2 : i - il.length = 0
      · rw [h2]; rfl
      · have hn2 : ([0] : List Int)[i - il.length]? = none := List.getElem?_eq_none (by simp; omega)
        rw [hn2]
  · rfl

theorem set_getD (l : List Int) (a i : Nat) (v : Int) (h : a < l.length) : (l.set a v).getD i 0 = if i = a then v else l.getD i 0 := by
  simp only [List.getD, List.getElem?_set]
  by_cases e : a = i
  · subst e; simp [h]
  · rw [if_neg e, if_neg (fun e' => e e'.symm)]

theorem add_words (il : List Int) (n : Nat) (i : Bool) (hw : Words il) (hl : il.length = (n + 63) / 64) : Words (intsAdd il n i) := by
  have hr : (intsRoom il n).length = n / 64 + 1 := by
    unfold intsRoom
    split
    · simp; omega
    · omega
  intro q
  unfold intsAdd
  cases i
  · simp only [Bool.false_eq_true, if_false]; rw [room_getD]; exact hw q
  · simp only [if_true]
    rw [set_getD _ _ _ _ (by omega), room_getD, room_getD]
    split
    · exact orBit_word _ _ (hw _) (Nat.mod_lt _ (by decide))
    · exact hw q

theorem add_bit (il : List Int) (n : Nat) (i : Bool) (hw : Words il) (hl : il.length = (n + 63) / 64) (j : Nat) : bitAt (intsAdd il n i) j = (bitAt il j || (i && decide (n = j))) := by
  have hr : (intsRoom il n).length = n / 64 + 1 := by
    unfold intsRoom
    split
    · simp; omega
    · omega
  unfold bitAt intsAdd
  cases i
  · simp only [Bool.false_eq_true, if_false]; rw [room_getD]; simp
  · simp only [if_true, Bool.true_and]
    rw [set_getD _ _ _ _ (by omega), room_getD, room_getD]
    by_cases e : j / 64 = n / 64
    · rw [if_pos e, bitB_or _ _ _ (hw _) (Nat.mod_lt _ (by decide)) (Nat.mod_lt _ (by decide)), e]
      have : decide (n % 64 = j % 64) = decide (n = j) := by
        by_cases e2 : n = j
        · subst e2; simp
        · rw [decide_eq_false e2, decide_eq_false (by omega)]
      rw [this]
    · rw [if_neg e]
      have : decide (n = j) = false := decide_eq_false (fun e2 => e (by rw [e2]))
      rw [this]; simp

/-- Is the value a whole number? -/
def flagOf (e : El) : Bool := decide (e.k = 2) && e.isI

theorem ints_bits_aux (es : List El) : ∀ (p : List Int × Nat), Words p.1 → p.1.length = (p.2 + 63) / 64 → Words (es.foldl intsStep p).1 ∧
    ∀ j, bitAt (es.foldl intsStep p).1 j = (bitAt p.1 j || (decide (p.2 ≤ j) && ((es[j - p.2]?).map flagOf).getD false)) := by
  induction es with
  | nil => intro p hw _; exact ⟨hw, fun j => by simp⟩
  | cons e es ih =>
    intro p hw hl
    have hw1 := add_words p.1 p.2 (decide (e.k = 2) && e.isI) hw hl
    have hl1 := intsAdd_len p.1 p.2 (decide (e.k = 2) && e.isI) hl
    obtain ⟨a, b⟩ := ih (intsStep p e) hw1 hl1
    refine ⟨a, fun j => ?_⟩
    rw [List.foldl_cons, b j]
    show (bitAt (intsAdd p.1 p.2 (decide (e.k = 2) && e.isI)) j || (decide (p.2 + 1 ≤ j) && ((es[j - (p.2 + 1)]?).map flagOf).getD false)) = _
    rw [add_bit p.1 p.2 _ hw hl j]
    by_cases h1 : j < p.2
    · rw [decide_eq_false (show ¬ p.2 = j by omega), decide_eq_false (show ¬ p.2 + 1 ≤ j by omega), decide_eq_false (show ¬ p.2 ≤ j by omega)]
      simp
    · by_cases h2 : j = p.2
      · subst h2
        rw [decide_eq_true rfl, decide_eq_false (show ¬ p.2 + 1 ≤ p.2 by omega), decide_eq_true (Nat.le_refl _)]
        simp [flagOf]
      · rw [decide_eq_false (show ¬ p.2 = j by omega), decide_eq_true (show p.2 + 1 ≤ j by omega), decide_eq_true (show p.2 ≤ j by omega), show j - p.2 = (j - (p.2 + 1)) + 1 by omega]
        simp

theorem ints_bits (es : List El) (i : Nat) (h : i < es.length) : bitAt (intsOf es) i = flagOf es[i] := by
  have := (ints_bits_aux es ([], 0) (fun i => ⟨by simp, by simp⟩) rfl).2 i
  unfold intsOf
  rw [this]
  have h0 : bitAt ([] : List Int) i = false := by unfold bitAt; simp only [List.getD_nil]; exact bitB_zero _ (Nat.mod_lt _ (by decide))
  simp [h0, h]
end Go.Proofs.Qxb6603696a
