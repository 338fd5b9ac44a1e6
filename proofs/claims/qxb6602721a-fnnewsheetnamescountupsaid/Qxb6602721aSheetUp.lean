import Derived.Test.Qxb6602721aSuccWalks
import Derived.WalkSpells
import Derived.Deep.DrawnRows
namespace Go.Proofs.Qxb6602721a.Sheet
open Go.RowKit

theorem up_div_mul_le (c l : Int) (hc : 0 < c) (hl : 0 ≤ l) (h : l ≤ 65536 / c) : 0 ≤ l * c ∧ l * c ≤ 65536 := by
  have h1 : l * c ≤ 65536 / c * c := Int.mul_le_mul_of_nonneg_right h (by omega)
  have h2 : 65536 / c * c ≤ 65536 := Int.ediv_mul_le _ (by omega)
  exact ⟨Int.mul_nonneg hl (by omega), by omega⟩

theorem up_wrap_fit (x : Int) (h : 0 ≤ x ∧ x ≤ 65536) : wrap64 x = x := by
  unfold wrap64; omega

set_option maxHeartbeats 2000000 in
set_option maxRecDepth 1000000 in
theorem up_out (a0 a1 : Int) (w : World) (h : a0 < 0 ∨ 65536 < a0) :
    Calls Try.prog 4 #[.int .i64 a0, .int .i64 a1] w fun e w' => e = .returned (.bool true) ∧ Below w.heap.size w w' := by
  rcases h with h | h
  all_goals
    go_enter Try.func4, Try.ntmps4
    go_wp2
    go_ret
    exact ⟨rfl, Below.refl _ _⟩

set_option maxHeartbeats 2000000 in
set_option maxRecDepth 1000000 in
theorem up_lines (a0 a1 : Int) (w : World) (h0 : 0 < a0) (h1 : a0 ≤ 65536) (h : a1 < 0 ∨ 65536 / a0 < a1) :
    Calls Try.prog 4 #[.int .i64 a0, .int .i64 a1] w fun e w' => e = .returned (.bool true) ∧ Below w.heap.size w w' := by
  by_cases h2 : a1 < 0
  · go_enter Try.func4, Try.ntmps4
    go_wp2
    go_ret
    exact ⟨rfl, Below.refl _ _⟩
  · have h3 : 65536 / a0 < a1 := by omega
    go_enter Try.func4, Try.ntmps4
    go_wp2
    go_ret
    exact ⟨rfl, Below.refl _ _⟩

theorem name_zero : st (name 0) = ⟨#[65]⟩ := rfl

set_option maxHeartbeats 2000000 in
set_option maxRecDepth 1000000 in
theorem up_main (c N : Nat) (ln : Int) (w : World) (hc : (c : Int) ≤ 65536) (hN : N ≤ 65536) (hln : wrap64 (ln * c) = N) (hg : 0 < c → 0 ≤ ln ∧ ln ≤ 65536 / (c : Int)) :
    Calls Try.prog 4 #[.int .i64 c, .int .i64 ln] w fun e w' => e = .returned (.bool true) ∧ Below w.heap.size w w' := by
  have HL : Hid (wrap64 (ln * c) = N) := hln
  clear hln
  by_cases h0 : (0 : Int) < c
  · obtain ⟨hl0, hl1⟩ := hg (by omega)
    clear hg
    go_enter Try.func4, Try.ntmps4
    go_wp2_with (go_at_call 7; refine (zz_any c N ln _ (by omega) hN HL.out).mono ?_; rintro e w' ⟨g1, g2, rfl, hB, hn1, hn2⟩; have HX : Hid (Below w.heap.size w w' ∧ w'.rowIs g1 9 c (fun j => .string (st (name j)))) := ⟨hB, hn1⟩; have c0 : w'.cell? ⟨g1, 0, none⟩ = some (.string ⟨#[65]⟩) := hn1.cell (by omega); clear hB hn1 hn2)
    go_loopw [10] (fun i wr => ∃ k : Nat, k ≤ c ∧ i = .int .i64 k ∧ Hid (Below w.heap.size w wr ∧ wr.rowIs g1 9 c (fun j => .string (st (name j))))) (fun i _ => c - (intOf i).toNat)
    case atStart => exact ⟨0, by omega, rfl, HX⟩
    case round =>
      obtain ⟨k, hk, rfl, HR⟩ := hrel
      by_cases hlt : (k : Int) + 1 < c
      · have ck1 : wr.cell? ⟨g1, k, none⟩ = some (.string (st (name k))) := HR.out.2.cell (by omega)
        have ck2 : wr.cell? ⟨g1, k + 1, none⟩ = some (.string (st (name (k + 1)))) := HR.out.2.cell (by omega)
        have l1 := HR.out.2.lt
        have hk0 : (0 : Int) ≤ (k : Int) := by omega
        have hk1 : (0 : Int) ≤ (k : Int) + 1 := by omega
        have hk2 : (k : Int) < c := by omega
        have hwk : IntKind.i64.wrap ((k : Int) + 1) = (k : Int) + 1 := by rw [IntKind.wrap_i64]; omega
        have htn : ((k : Int) + 1).toNat = k + 1 := by omega
        have hsn : succL (name k) = name (k + 1) := succ_name k
        have hnl : (name k).length ≤ 65536 := by have := nm_le (k + 1) (k + 1); unfold name; omega
        have HLt : Hid (∀ t, t < (name k).length → num (name k) t ≤ 90) := fun t ht => by
          have := letters_name k ((name k)[t]) (List.getElem_mem ht)
          unfold num; simp [List.getD, ht]; omega
        go_wp2
        go_region_held3 (fun w' => w'.cell? ⟨g1, k, none⟩ = some (.string (st (name k))) ∧ w'.cell? ⟨g1, k + 1, none⟩ = some (.string (st (name (k + 1))))) (first | go_keep | (exact ⟨(hb.cell (p := ⟨g1, k, none⟩) (by simpa using l1)).trans ck1, (hb.cell (p := ⟨g1, k + 1, none⟩) (by simpa using l1)).trans ck2⟩))
          ((go_at_call 9; refine (succ_any (name k) _ hnl HLt.out).mono ?_; rintro e w2 ⟨rfl, hb⟩))
        go_wp2
        go_roundw
        case rel => exact ⟨k + 1, by omega, by go_num, HR.out.1.drew.trans (hb.mono HR.out.1.size), HR.out.2.drew.of_block (hb.block g1 l1)⟩
        case measure => simp [intOf]; omega
      · go_wp2
        go_ret
        exact ⟨rfl, HR.out.1⟩
  · clear hg
    go_enter Try.func4, Try.ntmps4
    go_wp2_with (go_at_call 7; refine (zz_any c N ln _ (by omega) hN HL.out).mono ?_; rintro e w' ⟨g1, g2, rfl, hB, hn1, hn2⟩)
    refine wp_loop_rounds 1 ?_
    rw [rounds_succ]
    go_wp2
    go_ret
    exact ⟨rfl, hB⟩

theorem up_any (a0 a1 : Int) (w : World) : Calls Try.prog 4 #[.int .i64 a0, .int .i64 a1] w fun e w' => e = .returned (.bool true) ∧ Below w.heap.size w w' := by
  by_cases h : a0 < 0 ∨ 65536 < a0
  · exact up_out a0 a1 w h
  · obtain ⟨c, rfl⟩ : ∃ c : Nat, a0 = c := ⟨a0.toNat, by omega⟩
    by_cases h0 : (0 : Int) < c
    · by_cases h1 : a1 < 0 ∨ 65536 / (c : Int) < a1
      · exact up_lines c a1 w h0 (by omega) h1
      · have hb := up_div_mul_le c a1 h0 (by omega) (by omega)
        exact up_main c (a1 * c).toNat a1 w (by omega) (by omega) (by rw [up_wrap_fit _ hb]; omega) (fun _ => by omega)
    · obtain rfl : c = 0 := by omega
      exact up_main 0 0 a1 w (by omega) (by omega) (by simp [wrap64]) (fun h => by omega)
end Go.Proofs.Qxb6602721a.Sheet
