import Derived.Test.Qxb6602721aRows
import Derived.Test.Qxb6602721aSheetPlain
import Derived.WalkKit
import Derived.ProofKit
import Derived.WalkLawsBesides
import Derived.LoopN
namespace Go.Proofs.Qxb6602721a.Sheet
open Go.RowKit

/-- The byte of a number. -/
def by8 (n : Int) : UInt8 := UInt8.ofNat n.toNat

theorem b_ch (x : Int) (k : Nat) (h : x = 65 + ((k % 26 : Nat) : Int)) : by8 x = ch k := by
  subst h
  unfold ch by8
  rw [show (65 + ((k % 26 : Nat) : Int)).toNat = 65 + k % 26 by omega]

theorem ret_str {a b : List UInt8} (h : a = b) : Ending.returned (.string (st a)) = .returned (.string (st b)) := by rw [h]

theorem cell_new (w : World) (c : Array Value) (t : TypeId) (j : Nat) : (w.alloc (.cells c t)).cell? ⟨w.heap.size, j, none⟩ = c[j]? := by
  have : (w.alloc (.cells c t)).heap[w.heap.size]? = some (.cells c t (0, 0)) := by
    show (w.heap.push _)[w.heap.size]? = _; simp
  unfold World.cell?
  simp only [this]
  simp

theorem mk1 : ∀ w, (Instr.makeSlice 35 (.int .i64 1) (.int .i64 1)).run Try.prog w = .ok (.slice (some ⟨w.heap.size, 0, none⟩) 1 1) (w.alloc (.cells #[.int .u8 0] 5)) := fun _ => by kernel_rfl

theorem cv1 (w : World) (x : Int) : (convert 35 9 (.slice (some ⟨w.heap.size, 0, none⟩) 1 1)).run Try.prog (w.alloc (.cells #[.int .u8 x] 5)) = .ok (.string (st [by8 x])) (w.alloc (.cells #[.int .u8 x] 5)) := by
  refine run_string_row _ 35 9 5 _ 1 1 (fun j => [x].getD j 0) _ Try.underlying35 Try.underlying5 Try.underlying9 (fun j hj => ?_) rfl
  rw [cell_new]
  match j, hj with
  | 0, _ => rfl

set_option maxRecDepth 1000000 in
set_option maxHeartbeats 1000000 in
theorem col1 (i : Nat) (w : World) (h2 : (i : Int) < 26) :
    Calls Try.prog 8 #[.int .i64 i] w fun e w' => e = .returned (.string (st (name i))) ∧ Below w.heap.size w w' := by
  have hmk := mk1
  have hcv := cv1
  go_enter Try.func8, Try.ntmps8
  go_wp2
  refine wp_loop_rounds 1 ?_
  rw [rounds_succ]; go_wp2
  refine wp_loop_rounds 2 ?_
  rw [rounds_succ]; go_wp2
  rw [rounds_succ]; go_wp2
  go_ret
  refine ⟨ret_str ?_, (Below.refl _ _).alloc (Nat.le_refl _) _⟩
  rw [name1 i (by omega), b_ch _ i (by omega)]

theorem mk2 : ∀ w, (Instr.makeSlice 35 (.int .i64 2) (.int .i64 2)).run Try.prog w = .ok (.slice (some ⟨w.heap.size, 0, none⟩) 2 2) (w.alloc (.cells #[.int .u8 0, .int .u8 0] 5)) := fun _ => by kernel_rfl

theorem cv2 (w : World) (x y : Int) : (convert 35 9 (.slice (some ⟨w.heap.size, 0, none⟩) 2 2)).run Try.prog (w.alloc (.cells #[.int .u8 x, .int .u8 y] 5)) = .ok (.string (st [by8 x, by8 y])) (w.alloc (.cells #[.int .u8 x, .int .u8 y] 5)) := by
  refine run_string_row _ 35 9 5 _ 2 2 (fun j => [x, y].getD j 0) _ Try.underlying35 Try.underlying5 Try.underlying9 (fun j hj => ?_) rfl
  rw [cell_new]
  match j, hj with
  | 0, _ => rfl
  | 1, _ => rfl

set_option maxRecDepth 1000000 in
set_option maxHeartbeats 1000000 in
theorem col2 (i : Nat) (w : World) (h1 : (26 : Int) ≤ i) (h2 : (i : Int) < 702) :
    Calls Try.prog 8 #[.int .i64 i] w fun e w' => e = .returned (.string (st (name i))) ∧ Below w.heap.size w w' := by
  have hmk := mk2
  have hcv := cv2
  go_enter Try.func8, Try.ntmps8
  go_wp2
  refine wp_loop_rounds 2 ?_
  rw [rounds_succ]; go_wp2
  have hq : ¬ ((676 : Int) ≤ (i : Int) - 26) := by omega
  rw [rounds_succ]; go_wp2
  obtain ⟨m, hm⟩ : ∃ m : Nat, (i : Int) - 26 = m := ⟨i - 26, by omega⟩
  have hmb : (m : Int) ≤ 47257 := by omega
  rw [hm]
  have HM : Hid ((i : Int) - 26 = m) := hm
  clear hm hq
  refine wp_loop_rounds 3 ?_
  rw [rounds_succ]; go_wp2
  rw [rounds_succ]; go_wp2
  rw [rounds_succ]; go_wp2
  go_ret
  have hm := HM.out
  obtain rfl : m = i - 26 := by omega
  refine ⟨ret_str ?_, (Below.refl _ _).alloc (Nat.le_refl _) _⟩
  rw [name2 i (by omega) (by omega), b_ch _ ((i - 26) / 26) (by omega), b_ch _ (i - 26) (by omega)]

theorem mk3 : ∀ w, (Instr.makeSlice 35 (.int .i64 3) (.int .i64 3)).run Try.prog w = .ok (.slice (some ⟨w.heap.size, 0, none⟩) 3 3) (w.alloc (.cells #[.int .u8 0, .int .u8 0, .int .u8 0] 5)) := fun _ => by kernel_rfl

theorem cv3 (w : World) (x y z : Int) : (convert 35 9 (.slice (some ⟨w.heap.size, 0, none⟩) 3 3)).run Try.prog (w.alloc (.cells #[.int .u8 x, .int .u8 y, .int .u8 z] 5)) = .ok (.string (st [by8 x, by8 y, by8 z])) (w.alloc (.cells #[.int .u8 x, .int .u8 y, .int .u8 z] 5)) := by
  refine run_string_row _ 35 9 5 _ 3 3 (fun j => [x, y, z].getD j 0) _ Try.underlying35 Try.underlying5 Try.underlying9 (fun j hj => ?_) rfl
  rw [cell_new]
  match j, hj with
  | 0, _ => rfl
  | 1, _ => rfl
  | 2, _ => rfl

set_option maxRecDepth 1000000 in
set_option maxHeartbeats 1000000 in
theorem col3 (i : Nat) (w : World) (h1 : (702 : Int) ≤ i) (h2 : (i : Int) < 18278) :
    Calls Try.prog 8 #[.int .i64 i] w fun e w' => e = .returned (.string (st (name i))) ∧ Below w.heap.size w w' := by
  have hmk := mk3
  have hcv := cv3
  go_enter Try.func8, Try.ntmps8
  go_wp2
  refine wp_loop_rounds 3 ?_
  rw [rounds_succ]; go_wp2
  rw [rounds_succ]; go_wp2
  have hq : ¬ ((17576 : Int) ≤ (i : Int) - 26 - 676) := by omega
  rw [rounds_succ]; go_wp2
  obtain ⟨m, hm⟩ : ∃ m : Nat, (i : Int) - 26 - 676 = m := ⟨i - 702, by omega⟩
  have hmb : (m : Int) ≤ 47257 := by omega
  rw [hm]
  have HM : Hid ((i : Int) - 26 - 676 = m) := hm
  clear hm hq
  refine wp_loop_rounds 4 ?_
  rw [rounds_succ]; go_wp2
  rw [rounds_succ]; go_wp2
  rw [rounds_succ]; go_wp2
  rw [rounds_succ]; go_wp2
  go_ret
  have hm := HM.out
  obtain rfl : m = i - 702 := by omega
  refine ⟨ret_str ?_, (Below.refl _ _).alloc (Nat.le_refl _) _⟩
  rw [name3 i (by omega) (by omega), b_ch _ (((i - 702) / 26) / 26) (by omega), b_ch _ ((i - 702) / 26) (by omega), b_ch _ (i - 702) (by omega)]

theorem mk4 : ∀ w, (Instr.makeSlice 35 (.int .i64 4) (.int .i64 4)).run Try.prog w = .ok (.slice (some ⟨w.heap.size, 0, none⟩) 4 4) (w.alloc (.cells #[.int .u8 0, .int .u8 0, .int .u8 0, .int .u8 0] 5)) := fun _ => by kernel_rfl

theorem cv4 (w : World) (x y z u : Int) : (convert 35 9 (.slice (some ⟨w.heap.size, 0, none⟩) 4 4)).run Try.prog (w.alloc (.cells #[.int .u8 x, .int .u8 y, .int .u8 z, .int .u8 u] 5)) = .ok (.string (st [by8 x, by8 y, by8 z, by8 u])) (w.alloc (.cells #[.int .u8 x, .int .u8 y, .int .u8 z, .int .u8 u] 5)) := by
  refine run_string_row _ 35 9 5 _ 4 4 (fun j => [x, y, z, u].getD j 0) _ Try.underlying35 Try.underlying5 Try.underlying9 (fun j hj => ?_) rfl
  rw [cell_new]
  match j, hj with
  | 0, _ => rfl
  | 1, _ => rfl
  | 2, _ => rfl
  | 3, _ => rfl

set_option maxRecDepth 1000000 in
set_option maxHeartbeats 1000000 in
theorem col4 (i : Nat) (w : World) (h1 : (18278 : Int) ≤ i) (h2 : (i : Int) ≤ 65535) :
    Calls Try.prog 8 #[.int .i64 i] w fun e w' => e = .returned (.string (st (name i))) ∧ Below w.heap.size w w' := by
  have hmk := mk4
  have hcv := cv4
  go_enter Try.func8, Try.ntmps8
  go_wp2
  refine wp_loop_rounds 4 ?_
  rw [rounds_succ]; go_wp2
  rw [rounds_succ]; go_wp2
  rw [rounds_succ]; go_wp2
  have hq : ¬ ((456976 : Int) ≤ (i : Int) - 26 - 676 - 17576) := by omega
  rw [rounds_succ]; go_wp2
  obtain ⟨m, hm⟩ : ∃ m : Nat, (i : Int) - 26 - 676 - 17576 = m := ⟨i - 18278, by omega⟩
  have hmb : (m : Int) ≤ 47257 := by omega
  rw [hm]
  have HM : Hid ((i : Int) - 26 - 676 - 17576 = m) := hm
  clear hm hq
  refine wp_loop_rounds 5 ?_
  rw [rounds_succ]; go_wp2
  rw [rounds_succ]; go_wp2
  rw [rounds_succ]; go_wp2
  rw [rounds_succ]; go_wp2
  rw [rounds_succ]; go_wp2
  go_ret
  have hm := HM.out
  obtain rfl : m = i - 18278 := by omega
  refine ⟨ret_str ?_, (Below.refl _ _).alloc (Nat.le_refl _) _⟩
  rw [name4 i (by omega) (by omega), b_ch _ ((((i - 18278) / 26) / 26) / 26) (by omega), b_ch _ (((i - 18278) / 26) / 26) (by omega), b_ch _ ((i - 18278) / 26) (by omega), b_ch _ (i - 18278) (by omega)]

theorem col_any (i : Nat) (w : World) (h : i < 65536) :
    Calls Try.prog 8 #[.int .i64 i] w fun e w' => e = .returned (.string (st (name i))) ∧ Below w.heap.size w w' := by
  by_cases h1 : i < 26
  · exact col1 i w (by omega)
  · by_cases h2 : i < 702
    · exact col2 i w (by omega) (by omega)
    · by_cases h3 : i < 18278
      · exact col3 i w (by omega) (by omega)
      · exact col4 i w (by omega) (by omega)
end Go.Proofs.Qxb6602721a.Sheet
