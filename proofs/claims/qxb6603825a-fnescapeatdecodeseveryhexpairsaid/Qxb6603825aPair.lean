import Derived.Test.Qxb6603825aTable
import Derived.Deep.OwnRows
import Derived.Laws.BytesString
import Derived.Laws.Cells
namespace Go.Proofs.Qxb6603825a
open Go.RowKit

/-- The digit d, in the chosen case. -/
def dig (d : Nat) (up : Bool) : Int := if up then upB d else lowB d

theorem dig_bd (d : Nat) (up : Bool) (h : d < 16) : 0 ≤ dig d up ∧ dig d up ≤ 255 := by
  unfold dig upB lowB; split <;> split <;> omega

theorem dig_dg (d : Nat) (up : Bool) (h : d < 16) : hx (dig d up) = true ∧ hv (dig d up) = d := by
  have k : dgB (dig d up) d = true := by
    rw [dg_eq _ _ h]
    unfold dig
    cases up <;> simp
  unfold dgB at k
  simp only [Bool.and_eq_true, decide_eq_true_eq] at k
  exact k

theorem u8_and15 (v : Nat) (h : v < 256) : bits .and .u8 (v : Int) 15 = ((v % 16 : Nat) : Int) := by
  rw [show (15 : Int) = ((15 : Nat) : Int) from rfl, u8_and_nat v 15 h (by omega), nat_mask4]

set_option maxHeartbeats 2000000 in
set_option maxRecDepth 1000000 in
theorem hexDigit_any (d : Nat) (up : Bool) (w : World) (hd : d < 256) :
    Calls Try.prog 12 #[.int .u8 d, .bool up] w fun e w' => e = .returned (.int .u8 (dig (d % 16) up)) ∧ w' = w := by
  have hb := u8_and15 d hd
  obtain ⟨m, hm⟩ : ∃ m, m = d % 16 := ⟨_, rfl⟩
  have hm16 : m < 16 := by omega
  rw [← hm] at hb ⊢
  clear hm
  have hd0 : (0 : Int) ≤ (m : Int) := by omega
  have hd1 : (m : Int) < 16 := by omega
  have s1 : ({ data := #[48, 49, 50, 51, 52, 53, 54, 55, 56, 57, 97, 98, 99, 100, 101, 102] } : ByteArray).size = 16 := rfl
  have s2 : ({ data := #[48, 49, 50, 51, 52, 53, 54, 55, 56, 57, 65, 66, 67, 68, 69, 70] } : ByteArray).size = 16 := rfl
  have l1 := low_at m (by rw [s1]; exact hm16)
  have l2 := up_at m (by rw [s2]; exact hm16)
  cases up
  · go_enter Try.func12, Try.ntmps12
    go_wp2
    go_ret
    exact ⟨rfl, rfl⟩
  · go_enter Try.func12, Try.ntmps12
    go_wp2
    go_ret
    exact ⟨rfl, rfl⟩

def st (l : List UInt8) : ByteArray := ⟨l.toArray⟩
def by8 (n : Int) : UInt8 := UInt8.ofNat n.toNat
theorem by8_int (n : Int) (h : 0 ≤ n ∧ n ≤ 255) : ((by8 n).toNat : Int) = n := by
  unfold by8
  rw [UInt8.toNat_ofNat']
  omega

theorem st_app (a b : List UInt8) : st a ++ st b = st (a ++ b) := by
  apply ByteArray.ext
  simp [st]

theorem st_bt (l : List UInt8) (t : ByteArray) (j : Nat) (h : j < l.length) : bt (st l ++ t) j = ((l[j]'h).toNat : Int) := by
  have hs : j < (st l).size := h
  have hs' : j < (st l ++ t).size := by rw [ByteArray.size_append]; omega
  rw [← bt_eq hs']
  rw [ByteArray.getElem_append_left hs]
  rfl

theorem st_size (l : List UInt8) (t : ByteArray) : (st l ++ t).size = l.length + t.size := by
  rw [ByteArray.size_append]; rfl

theorem esc_pair (x y : Int) (t : ByteArray) (hx0 : 0 ≤ x ∧ x ≤ 255) (hy0 : 0 ≤ y ∧ y ≤ 255) (h1 : hx x = true) (h2 : hx y = true) :
    escB (st [92, 120, by8 x, by8 y] ++ t) = (hv x * 16 + hv y, 4) := by
  have e0 := st_bt [92, 120, by8 x, by8 y] t 0 (by simp)
  have e1 := st_bt [92, 120, by8 x, by8 y] t 1 (by simp)
  have e2 := st_bt [92, 120, by8 x, by8 y] t 2 (by simp)
  have e3 := st_bt [92, 120, by8 x, by8 y] t 3 (by simp)
  have es := st_size [92, 120, by8 x, by8 y] t
  simp only [List.length_cons, List.length_nil, List.getElem_cons_zero, List.getElem_cons_succ] at e0 e1 e2 e3 es
  rw [by8_int x hx0] at e2
  rw [by8_int y hy0] at e3
  have e0' : bt (st [92, 120, by8 x, by8 y] ++ t) 0 = 92 := e0
  have e1' : bt (st [92, 120, by8 x, by8 y] ++ t) 1 = 120 := e1
  unfold escB
  rw [if_neg (by omega), if_neg (by omega), if_pos e1', if_neg (by omega), e2, e3, h1, h2]
  rfl

theorem esc_one (c : Int) (t : ByteArray) (hc : c = 34 ∨ c = 92) : escB (st [92, by8 c] ++ t) = (c, 2) := by
  have e0 := st_bt [92, by8 c] t 0 (by simp)
  have e1 := st_bt [92, by8 c] t 1 (by simp)
  have es := st_size [92, by8 c] t
  simp only [List.length_cons, List.length_nil, List.getElem_cons_zero, List.getElem_cons_succ] at e0 e1 es
  rw [by8_int c (by omega)] at e1
  have e0' : bt (st [92, by8 c] ++ t) 0 = 92 := e0
  unfold escB
  rw [if_neg (by omega), if_pos (by omega), e1]

theorem foldl_push (ns : List Int) : ∀ s : ByteArray, (ns.foldl (fun r n => r.push (UInt8.ofNat n.toNat)) s).data.toList = s.data.toList ++ ns.map (fun n => UInt8.ofNat n.toNat) := by
  induction ns with
  | nil => intro s; simp
  | cons n ns ih => intro s; rw [List.foldl_cons, ih]; simp [ByteArray.push]

theorem run_string_row {P : Program} (w : World) (src dst e : TypeId) (b n c : Nat) (F : Nat → Int) (l : List UInt8)
    (hs : P.underlying src = some (.slice e)) (he : P.underlying e = some (.int .u8)) (hd : P.underlying dst = some .string)
    (hrow : ∀ j, j < n → w.cell? ⟨b, j, none⟩ = some (.int .u8 (F j))) (hl : l = (List.range n).map (fun j => UInt8.ofNat (F j).toNat)) :
    (convert src dst (.slice (some ⟨b, 0, none⟩) n c)).run P w = .ok (.string (st l)) w := by
  rw [run_convert_bytes_string w src dst e _ n c hs he hd]
  rw [run_bytesToString w ⟨b, 0, none⟩ n c ((List.range n).map F)]
  · congr 2
    apply ByteArray.ext
    apply Array.ext'
    rw [foldl_push, hl]
    simp [st, Function.comp_def]
  · rw [run_loadCells (w := w) (P := P) ⟨b, 0, none⟩ n (fun j => .int .u8 (F j)) (fun j hj => by rw [← hrow j hj, show Addr.add ⟨b, 0, none⟩ j = ⟨b, j, none⟩ by simp [Addr.add]; intro h; rw [h]])]
    simp [Function.comp_def]

theorem cell_new (w : World) (c : Array Value) (t : TypeId) (j : Nat) : (w.alloc (.cells c t)).cell? ⟨w.heap.size, j, none⟩ = c[j]? := by
  have : (w.alloc (.cells c t)).heap[w.heap.size]? = some (.cells c t (0, 0)) := by
    show (w.heap.push _)[w.heap.size]? = _; simp
  unfold World.cell?
  simp only [this]
  simp

theorem bs2 (x y : Int) : ∀ w, (Instr.buildSlice 28 2 #[(0, .int .u8 x), (1, .int .u8 y)]).run Try.prog w = .ok (.slice (some ⟨w.heap.size, 0, none⟩) 2 2) (w.alloc (.cells #[.int .u8 x, .int .u8 y] 5)) := fun _ => by kernel_rfl
theorem bs1 (x : Int) : ∀ w, (Instr.buildSlice 28 1 #[(0, .int .u8 x)]).run Try.prog w = .ok (.slice (some ⟨w.heap.size, 0, none⟩) 1 1) (w.alloc (.cells #[.int .u8 x] 5)) := fun _ => by kernel_rfl

theorem cv1 (w : World) (x : Int) : (convert 28 9 (.slice (some ⟨w.heap.size, 0, none⟩) 1 1)).run Try.prog (w.alloc (.cells #[.int .u8 x] 5)) = .ok (.string (st [by8 x])) (w.alloc (.cells #[.int .u8 x] 5)) := by
  refine run_string_row _ 28 9 5 _ 1 1 (fun j => [x].getD j 0) _ Try.underlying28 Try.underlying5 Try.underlying9 (fun j hj => ?_) rfl
  rw [cell_new]
  match j, hj with
  | 0, _ => rfl
theorem cv2 (w : World) (x y : Int) : (convert 28 9 (.slice (some ⟨w.heap.size, 0, none⟩) 2 2)).run Try.prog (w.alloc (.cells #[.int .u8 x, .int .u8 y] 5)) = .ok (.string (st [by8 x, by8 y])) (w.alloc (.cells #[.int .u8 x, .int .u8 y] 5)) := by
  refine run_string_row _ 28 9 5 _ 2 2 (fun j => [x, y].getD j 0) _ Try.underlying28 Try.underlying5 Try.underlying9 (fun j hj => ?_) rfl
  rw [cell_new]
  match j, hj with
  | 0, _ => rfl
  | 1, _ => rfl

set_option maxRecDepth 100000 in
set_option maxHeartbeats 400000 in
theorem zzb11_any (c : Int) (a b : Bool) (s : ByteArray) (w : World) (hs : s.size ≤ maxLen) :
    Calls Try.prog 11 #[.int .u8 c, .bool a, .bool b, .string s] w fun e w' => e = .returned (.bool (decide ((s.size : Int) ≤ 1048576))) ∧ w' = w := by
  unfold maxLen at hs
  by_cases h : (s.size : Int) ≤ 1048576
  · go_enter Try.func11, Try.ntmps11
    go_wp2
    go_ret
    exact ⟨by simp [h], rfl⟩
  · go_enter Try.func11, Try.ntmps11
    go_wp2
    go_ret
    exact ⟨by simp [h], rfl⟩

set_option maxRecDepth 100000 in
set_option maxHeartbeats 2000000 in
theorem pair_long (c : Int) (a b : Bool) (s : ByteArray) (w : World) (hs : s.size ≤ maxLen) (h : ¬ (s.size : Int) ≤ 1048576) :
    Calls Try.prog 4 #[.int .u8 c, .bool a, .bool b, .string s] w fun e w' => e = .returned (.bool true) ∧ Grown w w' := by
  go_enter Try.func4, Try.ntmps4
  go_wp2_with (first | (go_at_call 11; refine (zzb11_any c a b s _ hs).mono ?_; rintro e w' ⟨rfl, rfl⟩))
  all_goals go_ret
  all_goals exact ⟨rfl, Grown.refl _⟩

set_option maxRecDepth 100000 in
set_option maxHeartbeats 2000000 in
theorem pair_any (c : Nat) (a b : Bool) (s : ByteArray) (w : World) (hs : s.size ≤ maxLen) (hc : c < 256) (h : (s.size : Int) ≤ 1048576) :
    Calls Try.prog 4 #[.int .u8 c, .bool a, .bool b, .string s] w fun e w' => e = .returned (.bool true) ∧ Grown w w' := by
  have Z := hmk (zzb11_any c a b s · hs)
  have D1 := hmk (hexDigit_any (c / 16) a · (by omega))
  have D2 := hmk (hexDigit_any (c % 16) b · (by omega))
  rw [show c / 16 % 16 = c / 16 by omega] at D1
  rw [show c % 16 % 16 = c % 16 by omega] at D2
  have ea := hmk (show (c : Int) % 16 = ((c % 16 : Nat) : Int) by omega)
  have hc0 : (0 : Int) ≤ (c : Int) := by omega
  have hc1 : (c : Int) ≤ 255 := by omega
  have ed := hmk (show (c : Int) / 16 = ((c / 16 : Nat) : Int) by omega)
  have x0 := dig_bd (c / 16) a (by omega)
  have y0 := dig_bd (c % 16) b (by omega)
  have x1 := dig_dg (c / 16) a (by omega)
  have y1 := dig_dg (c % 16) b (by omega)
  obtain ⟨x, hx'⟩ : ∃ x, x = dig (c / 16) a := ⟨_, rfl⟩
  obtain ⟨y, hy'⟩ : ∃ x, x = dig (c % 16) b := ⟨_, rfl⟩
  rw [← hx'] at D1 x0 x1
  rw [← hy'] at D2 y0 y1
  have E1 := esc_pair x y s x0 y0 x1.1 y1.1
  rw [x1.2, y1.2, show ((c / 16 : Nat) : Int) * 16 + ((c % 16 : Nat) : Int) = c by omega] at E1
  have s1 : ({ data := #[92, 120] } : ByteArray) ++ st [by8 x, by8 y] = st [92, 120, by8 x, by8 y] := st_app [92, 120] [by8 x, by8 y]
  have z1 : (st [92, 120, by8 x, by8 y]).size = 4 := rfl
  have z2 : (st [by8 x, by8 y]).size = 2 := rfl
  have z3 : ({ data := #[92, 120] } : ByteArray).size = 2 := rfl
  have F1 := hmk (zzesc_any (st [92, 120, by8 x, by8 y] ++ s) · (by rw [st_size]; simp; omega))
  rw [E1] at F1
  have B1 := bs2 x y
  have C1 := cv2 (x := x) (y := y)
  clear hx' hy' E1 x0 y0 x1 y1
  go_enter Try.func4, Try.ntmps4
  go_wp2_with (first | (go_at_call 11; refine (Z.out _).mono ?_; rintro e w' ⟨rfl, rfl⟩))
  rw [ed.out]
  refine (D1.out _).mono ?_
  rintro e w' ⟨rfl, rfl⟩
  go_wp2_with fail
  rw [ea.out]
  refine (D2.out _).mono ?_
  rintro e w' ⟨rfl, rfl⟩
  go_wp2_with fail
  refine (F1.out _).mono ?_
  rintro e w1 ⟨rfl, rfl⟩
  by_cases k : (c : Int) = 34 ∨ (c : Int) = 92
  · have E2 := esc_one c s k
    have F2 := hmk (zzesc_any (st [92, by8 c] ++ s) · (by rw [st_size]; simp; omega))
    rw [E2] at F2
    clear E2
    have s2 : ({ data := #[92] } : ByteArray) ++ st [by8 c] = st [92, by8 c] := st_app [92] [by8 c]
    have z4 : (st [92, by8 c]).size = 2 := rfl
    have z5 : (st [by8 c]).size = 1 := rfl
    have z6 : ({ data := #[92] } : ByteArray).size = 1 := rfl
    have B2 := bs1 (c : Int)
    have C2 := cv1 (w'.alloc (.cells #[.int .u8 x, .int .u8 y] 5)) (c : Int)
    rw [show (w'.alloc (.cells #[.int .u8 x, .int .u8 y] 5)).heap.size = w'.heap.size + 1 from by show (w'.heap.push _).size = _; simp] at C2
    by_cases k34 : ((c : Int) == 34) = true
    · go_wp2_with fail
      refine (F2.out _).mono ?_
      rintro e w' ⟨rfl, rfl⟩
      go_wp2
      go_ret
      exact ⟨rfl, by repeat (first | exact Grown.refl _ | apply Grown.drew | apply Grown.alloc)⟩
    · have k34' : ((c : Int) == 34) = false := by simpa using k34
      have k92 : ((c : Int) == 92) = true := by simp at k34; simp; omega
      go_wp2_with fail
      refine (F2.out _).mono ?_
      rintro e w' ⟨rfl, rfl⟩
      go_wp2
      go_ret
      exact ⟨rfl, by repeat (first | exact Grown.refl _ | apply Grown.drew | apply Grown.alloc)⟩
  · have k34 : ((c : Int) == 34) = false := by simp; omega
    have k92 : ((c : Int) == 92) = false := by simp; omega
    clear k
    go_wp2
    go_ret
    exact ⟨rfl, by repeat (first | exact Grown.refl _ | apply Grown.drew | apply Grown.alloc)⟩
end Go.Proofs.Qxb6603825a
