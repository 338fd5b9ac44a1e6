import Derived.Test.Qxb6603696aKeepStr
namespace Go.Proofs.Qxb6603696a
open Go.RowKit

/-- One value, as the builder sees it. -/
structure El where
  k : Int
  bo : Bool
  isI : Bool
  bits : Int
  s : ByteArray

/-- What stands in the value's slot; c: how many strings stand ahead of it. -/
def slotOf (e : El) (c : Nat) : Int := if e.k = 2 then e.bits else if e.k = 3 then (c : Int) else if e.k = 1 then (if e.bo then 1 else 0) else 0
def isStr (e : El) : Bool := e.k == 3
def strsOf (es : List El) : List ByteArray := (es.filter isStr).map El.s
def nstr (es : List El) : Nat := (es.filter isStr).length
def slotsOf : List El → Nat → List Int
  | [], _ => []
  | e :: es, c => slotOf e c :: slotsOf es (if isStr e then c + 1 else c)
def kindsOf (es : List El) : List Int := es.map El.k
def intsStep (p : List Int × Nat) (e : El) : List Int × Nat := (intsAdd p.1 p.2 (decide (e.k = 2) && e.isI), p.2 + 1)
def intsOf (es : List El) : List Int := (es.foldl intsStep ([], 0)).1
def strV (es : List El) : List Value := (strsOf es).map Value.string

theorem ints_snd (es : List El) : ∀ p, (es.foldl intsStep p).2 = p.2 + es.length := by
  induction es with
  | nil => intro p; rfl
  | cons e es ih => intro p; rw [List.foldl_cons, ih]; simp [intsStep]; omega
theorem intsOf_snoc (es : List El) (e : El) : intsOf (es ++ [e]) = intsAdd (intsOf es) es.length (decide (e.k = 2) && e.isI) := by
  unfold intsOf
  rw [List.foldl_append, List.foldl_cons, List.foldl_nil]
  show intsAdd _ (es.foldl intsStep ([], 0)).2 _ = _
  rw [ints_snd]
  simp
theorem slotsOf_snoc (es : List El) (e : El) : ∀ c, slotsOf (es ++ [e]) c = slotsOf es c ++ [slotOf e (c + nstr es)] := by
  induction es with
  | nil => intro c; simp [slotsOf, nstr]
  | cons x es ih =>
    intro c
    rw [List.cons_append, slotsOf, slotsOf, ih, List.cons_append]
    congr 3
    unfold nstr
    by_cases hx : isStr x = true
    · simp [hx]; congr 1; omega
    · simp [hx]
theorem slotsOf_len (es : List El) : ∀ c, (slotsOf es c).length = es.length := by
  induction es with
  | nil => intro c; rfl
  | cons x es ih => intro c; simp [slotsOf, ih]
theorem strV_snoc_str (es : List El) (e : El) (h : e.k = 3) : strV (es ++ [e]) = strV es ++ [.string e.s] := by
  unfold strV strsOf
  simp [List.filter_append, isStr, h]
theorem strV_snoc_other (es : List El) (e : El) (h : e.k ≠ 3) : strV (es ++ [e]) = strV es := by
  unfold strV strsOf
  simp [List.filter_append, isStr, h]
theorem strV_len (es : List El) : (strV es).length = nstr es := by simp [strV, strsOf, nstr]
theorem nstr_le (es : List El) : nstr es ≤ es.length := List.length_filter_le _ _

theorem intsAdd_len (il : List Int) (n : Nat) (i : Bool) (h : il.length = (n + 63) / 64) : (intsAdd il n i).length = (n + 1 + 63) / 64 := by
  have hr : (intsRoom il n).length = (n + 1 + 63) / 64 := by
    unfold intsRoom
    split
    · simp; omega
    · omega
  unfold intsAdd
  cases i
  · simpa using hr
  · simpa using hr

theorem intsOf_len_aux (es : List El) : ∀ p : List Int × Nat, p.1.length = (p.2 + 63) / 64 → (es.foldl intsStep p).1.length = (p.2 + es.length + 63) / 64 := by
  induction es with
  | nil => intro p h; simpa using h
  | cons e es ih =>
    intro p h
    rw [List.foldl_cons, ih (intsStep p e) (intsAdd_len p.1 p.2 _ h)]
    simp [intsStep]
    congr 1; omega
theorem intsOf_len (es : List El) : (intsOf es).length = (es.length + 63) / 64 := by
  unfold intsOf
  rw [intsOf_len_aux es ([], 0) rfl]
  simp

/-- Strings alone: the places are 0, 1, .., the bits all clear. -/
theorem slots_strs (es : List El) : ∀ c, (∀ e ∈ es, e.k = 3) → slotsOf es c = (List.range es.length).map (fun i : Nat => ((c + i : Nat) : Int)) := by
  induction es with
  | nil => intro c _; rfl
  | cons e es ih =>
    intro c h
    have he : e.k = 3 := h e (by simp)
    rw [slotsOf, ih _ (fun x hx => h x (by simp [hx]))]
    rw [List.length_cons, List.range_succ_eq_map, List.map_cons, List.map_map]
    simp only [isStr, he, slotOf]
    simp
    intro i _
    omega
theorem slots_strs0 (es : List El) (h : ∀ e ∈ es, e.k = 3) : slotsOf es 0 = rng es.length := by
  rw [slots_strs es 0 h]; unfold rng; simp
theorem ints_none_aux (es : List El) (h : ∀ e ∈ es, e.k ≠ 2) : ∀ n, (es.foldl intsStep (List.replicate ((n + 63) / 64) 0, n)).1 = List.replicate ((n + es.length + 63) / 64) 0 := by
  induction es with
  | nil => intro n; rfl
  | cons e es ih =>
    intro n
    have he : e.k ≠ 2 := h e (by simp)
    rw [List.foldl_cons]
    have : intsStep (List.replicate ((n + 63) / 64) 0, n) e = (List.replicate ((n + 1 + 63) / 64) 0, n + 1) := by
      unfold intsStep intsAdd intsRoom
      simp only [he, decide_false, Bool.false_and, Bool.false_eq_true, if_false]
      congr 1
      split
      · rw [show (n + 1 + 63) / 64 = (n + 63) / 64 + 1 by omega, List.replicate_succ']
      · rw [show (n + 1 + 63) / 64 = (n + 63) / 64 by omega]
    rw [this, ih (fun x hx => h x (by simp [hx]))]
    congr 1
    simp; omega
theorem ints_none (es : List El) (h : ∀ e ∈ es, e.k ≠ 2) : intsOf es = List.replicate ((es.length + 63) / 64) 0 := by
  unfold intsOf
  have := ints_none_aux es h 0
  simpa using this
theorem kinds_all (es : List El) (k : Int) (h : ∀ e ∈ es, e.k = k) : kindsOf es = List.replicate es.length k := by
  refine List.eq_replicate_iff.2 ⟨by simp [kindsOf], fun x hx => ?_⟩
  obtain ⟨e, he, rfl⟩ := List.mem_map.1 hx
  exact h e he
theorem strV_all (es : List El) (h : ∀ e ∈ es, e.k = 3) : (strV es).length = es.length := by
  rw [strV_len]
  unfold nstr
  rw [List.filter_eq_self.2 (fun e he => by simp [isStr, h e he])]
theorem strV_none (es : List El) (h : ∀ e ∈ es, e.k = 2) : strV es = [] := by
  unfold strV strsOf
  rw [List.filter_eq_nil_iff.2 (fun e he => by simp [isStr, h e he])]
  rfl

/-- The builder's four forms, by the values added so far. -/
def Rep (V : Nat → Value) (X : Nat → List Value) (es : List El) : Prop :=
  (es = [] ∧ V 2 = .slice none 0 0 ∧ V 3 = .slice none 0 0 ∧ V 4 = .slice none 0 0 ∧ V 5 = .slice none 0 0 ∧ X 2 = [] ∧ X 3 = [] ∧ X 4 = [] ∧ X 5 = []) ∨
  ((∀ e ∈ es, e.k = 2) ∧ V 5 = .slice none 0 0 ∧ V 4 = .slice none 0 0 ∧ X 4 = [] ∧ X 2 = u64s (slotsOf es 0) ∧ X 3 = u64s (intsOf es) ∧ ∃ g cap, V 2 = .slice (some ⟨g, 0, none⟩) es.length cap) ∨
  ((∀ e ∈ es, e.k = 3) ∧ V 5 = .slice none 0 0 ∧ V 2 = .slice none 0 0 ∧ X 4 = strV es ∧ ∃ g cap, V 4 = .slice (some ⟨g, 0, none⟩) es.length cap) ∨
  (X 5 = u8s (kindsOf es) ∧ X 2 = u64s (slotsOf es 0) ∧ X 3 = u64s (intsOf es) ∧ X 4 = strV es ∧ (∃ g cap, V 5 = .slice (some ⟨g, 0, none⟩) es.length cap) ∧ ∃ g cap, V 2 = .slice (some ⟨g, 0, none⟩) es.length cap)
end Go.Proofs.Qxb6603696a
