import Derived.Test.Qxb6603696aZZBuilt
namespace Go.Proofs.Qxb6603696a
open Go.RowKit

/-- One element of the law's argument, field by field. -/
structure Elem8 where
  k : Int
  bo : Bool
  nsec : Int
  isI : Bool
  bits : Int
  s : ByteArray
  ha : Bool
  ot : Int

def Elem8.el (e : Elem8) : El := ⟨e.k, e.bo, e.isI, e.bits, e.s⟩

/-- Element i lies at block b from off on. -/
def ElAt (w : World) (b o : Nat) (e : Elem8) : Prop :=
  w.cell? ⟨b, o, none⟩ = some (.int .u8 e.k) ∧ w.cell? ⟨b, o + 1, none⟩ = some (.bool e.bo) ∧ w.cell? ⟨b, o + 2, none⟩ = some (.int .i32 e.nsec) ∧ w.cell? ⟨b, o + 3, none⟩ = some (.bool e.isI) ∧
  w.cell? ⟨b, o + 4, none⟩ = some (.int .u64 e.bits) ∧ w.cell? ⟨b, o + 5, none⟩ = some (.string e.s) ∧ w.cell? ⟨b, o + 6, none⟩ = some (.bool e.ha) ∧ w.cell? ⟨b, o + 7, none⟩ = some (.int .i64 e.ot) ∧ e.s.size ≤ maxLen

theorem ElAt.below {w w' : World} {b o : Nat} {e : Elem8} (h : ElAt w b o e) {B : Nat} (hb : Below B w w') (hlt : b < B) : ElAt w' b o e := by
  obtain ⟨h0, h1, h2, h3, h4, h5, h6, h7, h8⟩ := h
  exact ⟨(hb.cell (p := ⟨b, o, none⟩) hlt).trans h0, (hb.cell (p := ⟨b, o + 1, none⟩) hlt).trans h1, (hb.cell (p := ⟨b, o + 2, none⟩) hlt).trans h2, (hb.cell (p := ⟨b, o + 3, none⟩) hlt).trans h3,
    (hb.cell (p := ⟨b, o + 4, none⟩) hlt).trans h4, (hb.cell (p := ⟨b, o + 5, none⟩) hlt).trans h5, (hb.cell (p := ⟨b, o + 6, none⟩) hlt).trans h6, (hb.cell (p := ⟨b, o + 7, none⟩) hlt).trans h7, h8⟩

/-- WHAT THE WALK IS TOLD OF THE SLICE OF ELEMENTS THAT CAME IN. -/
def IsElems (w : World) (a : Option Addr) (len : Nat) (E : Nat → Elem8) : Prop :=
  len = 0 ∨ ∃ b off, a = some ⟨b, off, none⟩ ∧ b < w.heap.size ∧ ∀ i, i < len → ElAt w b (off + i * 8) (E i)

/-- The bytes of the first i elements' strings. -/
def szs (E : Nat → Elem8) : Nat → Nat
  | 0 => 0
  | i + 1 => szs E i + (E i).s.size

/-- The first j elements. -/
def esOf (E : Nat → Elem8) (j : Nat) : List El := (List.range j).map (fun i => (E i).el)
theorem esOf_len (E : Nat → Elem8) (j : Nat) : (esOf E j).length = j := by simp [esOf]
theorem esOf_succ (E : Nat → Elem8) (j : Nat) : esOf E (j + 1) = esOf E j ++ [(E j).el] := by
  unfold esOf; rw [List.range_succ, List.map_append]; rfl

/-- All strings of the first j elements are short. -/
def Short (E : Nat → Elem8) (j : Nat) : Prop := ∀ i, i < j → (E i).s.size ≤ 1048576
/-- It answers some bool; true only where all strings are short. -/
def IsB (len : Nat) (E : Nat → Elem8) (e : Ending) : Prop := ∃ B, e = .returned (.bool B) ∧ (B = true → Short E len)
theorem isF (len : Nat) (E : Nat → Elem8) : IsB len E (.returned (.bool false)) := ⟨false, rfl, fun h => by cases h⟩
/-- It answers some bool; false only where the elements are small. -/
def BigB (len : Nat) (E : Nat → Elem8) (e : Ending) : Prop := ∃ B, e = .returned (.bool B) ∧ (B = false → len ≤ 16384 ∧ 64 * len + szs E len ≤ 1048576)
theorem bigT (len : Nat) (E : Nat → Elem8) : BigB len E (.returned (.bool true)) := ⟨true, rfl, fun h => by cases h⟩

set_option maxHeartbeats 2000000 in
set_option maxRecDepth 1000000 in
theorem zzBytes_any (a0 a1 : Int) (a : Option Addr) (len cap : Nat) (E : Nat → Elem8) (w : World) (h : IsElems w a len E) (hm : len ≤ maxLen) :
    Calls Try.prog 13 #[.int .i64 a0, .int .i64 a1, .slice a len cap] w fun e w' => IsB len E e ∧ w' = w := by
  unfold maxLen at hm
  by_cases hl : (len : Int) ≤ 1048576
  · go_enter Try.func13, Try.ntmps13
    go_wp2
    go_loop [7, 8] (fun n i => ∃ (j : Nat) (m : Int), j ≤ len ∧ i = .int .i64 j ∧ n = .int .i64 m ∧ 0 ≤ m ∧ m ≤ 1048576 ∧ Hid (Short E j)) (fun _ i => len - (intOf i).toNat)
    case atStart => exact ⟨0, len, by omega, rfl, rfl, by omega, by omega, fun i hi => by omega⟩
    case round =>
      obtain ⟨j, m, hj, rfl, rfl, hm0, hm1, HS⟩ := hrel
      by_cases hlt : (j : Int) < len
      · rcases h with h | ⟨b, off, rfl, hbw, hE⟩
        · omega
        · obtain ⟨-, -, -, -, -, h5, -, -, h8⟩ := hE j (by omega)
          unfold maxLen at h8
          have hj0 : (0 : Int) ≤ (j : Int) := by omega
          clear hE
          go_wp2
          · go_ret
            exact ⟨isF _ _, rfl⟩
          · go_ret
            exact ⟨isF _ _, rfl⟩
          · go_round
            case rel => exact ⟨j + 1, _, by omega, by go_num, rfl, by omega, by assumption, fun i hi => by (by_cases e : i = j; (subst e; omega); exact HS.out i (by omega))⟩
            case measure => simp [intOf]; omega
      · obtain rfl : j = len := by omega
        go_wp2
        go_ret
        exact ⟨⟨true, rfl, fun _ => HS.out⟩, rfl⟩
  · go_enter Try.func13, Try.ntmps13
    go_wp2
    go_ret
    exact ⟨isF _ _, rfl⟩

set_option maxHeartbeats 2000000 in
set_option maxRecDepth 1000000 in
theorem tooBig_any (a : Option Addr) (len cap : Nat) (E : Nat → Elem8) (w : World) (h : IsElems w a len E) (hm : len ≤ maxLen) (HS : Hid (Short E len)) :
    Calls Try.prog 6 #[.slice a len cap] w fun e w' => BigB len E e ∧ w' = w := by
  unfold maxLen at hm
  by_cases hl : (len : Int) ≤ 16384
  · go_enter Try.func6, Try.ntmps6
    go_wp2
    go_loop [3, 4] (fun n i => ∃ (j : Nat) (m : Nat), j ≤ len ∧ i = .int .i64 j ∧ n = .int .i64 m ∧ m ≤ 1048576 ∧ Hid (m = 64 * len + szs E j)) (fun _ i => len - (intOf i).toNat)
    case atStart => exact ⟨0, 64 * len, by omega, rfl, by go_num, by omega, rfl⟩
    case round =>
      obtain ⟨j, m, hj, rfl, rfl, hm1, HM⟩ := hrel
      by_cases hlt : (j : Int) < len
      · rcases h with h | ⟨b, off, rfl, hbw, hE⟩
        · omega
        · obtain ⟨-, -, -, -, -, h5, -, -, h8⟩ := hE j (by omega)
          clear h8
          have h8 : (E j).s.size ≤ 1048576 := HS.out j (by omega)
          have hj0 : (0 : Int) ≤ (j : Int) := by omega
          clear hE
          go_wp2
          · go_ret
            exact ⟨bigT _ _, rfl⟩
          · go_round
            case rel => exact ⟨j + 1, m + (E j).s.size, by omega, by go_num, by go_num, by omega, by have := HM.out; show _ = 64 * len + (szs E j + (E j).s.size); omega⟩
            case measure => simp [intOf]; omega
      · obtain rfl : j = len := by omega
        go_wp2
        go_ret
        exact ⟨⟨false, rfl, fun _ => ⟨by omega, by have := HM.out; omega⟩⟩, rfl⟩
  · go_enter Try.func6, Try.ntmps6
    go_wp2
    go_ret
    exact ⟨bigT _ _, rfl⟩
end Go.Proofs.Qxb6603696a
