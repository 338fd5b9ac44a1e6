import Derived.Test.Qxb6602991aGrow
import Derived.Deep.RegionLaw
namespace Go.Proofs.Qxb6602991a
open Go.RowKit

theorem bs1 (x : Int) : ∀ w, (Instr.buildSlice 22 1 #[(0, .int .u8 x)]).run Try.prog w = .ok (.slice (some ⟨w.heap.size, 0, none⟩) 1 1) (w.alloc (.cells #[.int .u8 x] 5)) := fun _ => by kernel_rfl

theorem take_next (l : List Int) (k : Nat) (h : k < l.length) : l.take k ++ [nth l k] = l.take (k + 1) := by
  unfold nth
  rw [List.take_add_one]
  simp [h]

/-- The answer of 'appendAll'. -/
def Aa (w : World) (B n : Nat) (l : List Int) (e : Ending) (w' : World) : Prop := ∃ g' cap', e = .returned (.slice (some ⟨g', 0, none⟩) n cap') ∧ Ow w' B g' n cap' l ∧ Below B w w'

set_option maxHeartbeats 2000000 in
set_option maxRecDepth 1000000 in
theorem appendAll_any (g n cap B : Nat) (xs : List Int) (a : Option Addr) (m c : Nat) (l : List Int) (w : World) (h : Bs w B a l) (ho : Ow w B g n cap xs) (hm : l.length = m) (hb : n + m ≤ 9000000) :
    Calls Try.prog 14 #[.slice (some ⟨g, 0, none⟩) n cap, .slice a m c] w (Aa w B (n + m) (xs ++ l)) := by
  rcases h with ⟨rfl, rfl⟩ | ⟨x, rfl, h⟩
  · obtain rfl : m = 0 := by simpa using hm.symm
    have HO := hmk ho
    go_enter Try.func14, Try.ntmps14
    go_wp2
    refine wp_loop_rounds 1 ?_
    rw [rounds_succ]
    go_wp2
    go_ret
    exact ⟨g, cap, rfl, by simpa using HO.out, Below.refl _ _⟩
  · have HC := hmk h
    have HO := hmk ho
    clear h ho
    have hbI : (n : Int) + (m : Int) ≤ 9000000 := by omega
    go_enter Try.func14, Try.ntmps14
    go_wp2
    go_loopw [0, 5] (fun d i wr => ∃ k g1 cap1 : Nat, k ≤ m ∧ i = .int .i64 k ∧ d = .slice (some ⟨g1, 0, none⟩) (n + k) cap1 ∧ Hid (Ow wr B g1 (n + k) cap1 (xs ++ l.take k) ∧ Below B w wr)) (fun _ i _ => m - (intOf i).toNat)
    case atStart => exact ⟨0, g, cap, by omega, rfl, rfl, by simpa using HO.out, Below.refl _ _⟩
    case round =>
      obtain ⟨k, g1, cap1, hk, rfl, rfl, HR⟩ := hrel
      by_cases hlt : (k : Int) < m
      · have hlt' : k < m := by omega
        have hc1 := HC.out k (by omega)
        have hcx : wr.cell? (x.add k) = some (.int .u8 (nth l k)) := by
          rw [HR.out.2.cell (p := x.add k) (by rw [add_blk]; exact hc1.1)]; exact hc1.2
        have hk0 : (0 : Int) ≤ (k : Int) := by omega
        have hbs := bs1
        obtain ⟨g2, cap2, w1, hrun, hown, hbel⟩ := app_own [nth l k] #[.int .u8 (nth l k)] 1 rfl rfl HR.out.1 (by omega) (by omega)
        have HN := hmk (And.intro hown hbel)
        clear hc1 hown hbel
        go_wp2_with (at_builtin; refine wpList_append_run _ rfl (.tmp 12) (.tmp 17) 22 rfl _ _ _ _ hrun rfl rfl ?_)
        refine ⟨⟨k + 1, g2, cap2, by omega, by simp, by rfl, ?_, HR.out.2.trans HN.out.2⟩, ?_⟩
        · have := HN.out.1
          rw [List.append_assoc, take_next l k (by omega)] at this
          exact this
        · simp only [intOf]
          omega
      · obtain rfl : k = m := by omega
        go_wp2
        go_ret
        refine ⟨_, _, rfl, ?_, HR.out.2⟩
        have := HR.out.1
        rw [List.take_of_length_le (by omega)] at this
        exact this

set_option maxHeartbeats 2000000 in
set_option maxRecDepth 1000000 in
theorem same_any (a b : Option Addr) (n c d B : Nat) (l : List Int) (w : World) (ha : Bs w B a l) (hb : Bs w B b l) (hn : l.length = n) (hbd : n ≤ 9000000) :
    Calls Try.prog 16 #[.slice a n c, .slice b n d] w fun e w' => e = .returned (.bool true) ∧ Below w.heap.size w w' := by
  have hbI : (n : Int) ≤ 9000000 := by omega
  by_cases hl : l = []
  · subst hl
    obtain rfl : n = 0 := by simpa using hn.symm
    go_enter Try.func16, Try.ntmps16
    go_wp2
    refine wp_loop_rounds 1 ?_
    rw [rounds_succ]
    go_wp2
    go_ret
    exact ⟨rfl, Below.refl _ _⟩
  · rcases ha with ⟨_, h⟩ | ⟨x, rfl, ha⟩
    · exact absurd h hl
    rcases hb with ⟨_, h⟩ | ⟨y, rfl, hb⟩
    · exact absurd h hl
    have HA := hmk ha
    have HB := hmk hb
    clear ha hb hl
    go_enter Try.func16, Try.ntmps16
    go_wp2
    go_loopw [5] (fun i wr => ∃ k : Nat, k ≤ n ∧ i = .int .i64 k ∧ Hid (Below w.heap.size w wr)) (fun i _ => n - (intOf i).toNat)
    case atStart => exact ⟨0, by omega, rfl, Below.refl _ _⟩
    case round =>
      obtain ⟨k, hk, rfl, HR⟩ := hrel
      by_cases hlt : (k : Int) < n
      · have hlt' : k < n := by omega
        have h1 := (HA.out k (by omega)).2
        have h2 := (HB.out k (by omega)).2
        have hcx : wr.cell? (x.add k) = some (.int .u8 (nth l k)) := by
          rw [HR.out.cell (p := x.add k) (World.block_lt_of_cell? w _ h1)]; exact h1
        have hcy : wr.cell? (y.add k) = some (.int .u8 (nth l k)) := by
          rw [HR.out.cell (p := y.add k) (World.block_lt_of_cell? w _ h2)]; exact h2
        have hk0 : (0 : Int) ≤ (k : Int) := by omega
        clear h1 h2
        go_wp2
        go_region
        go_wp2
        refine ⟨⟨k + 1, by omega, by simp, HR.out.drew⟩, ?_⟩
        simp only [intOf]
        omega
      · obtain rfl : k = n := by omega
        go_wp2
        go_ret
        exact ⟨rfl, HR.out⟩
end Go.Proofs.Qxb6602991a
