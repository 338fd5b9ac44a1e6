import Derived.Test.Qxb6602991aRows
import Derived.WalkKit
import Derived.ProofKit
import Derived.WalkLawsBesides
import Derived.WalkSpells
import Derived.Deep.OwnRows
import Derived.Below
namespace Go.Proofs.Qxb6602991a
open Go.RowKit

theorem hmk {p : Prop} (h : p) : Hid p := h

/-- The byte at i. -/
def nth (l : List Int) (i : Nat) : Int := l.getD i 0

theorem add_blk (x : Addr) (i : Nat) : (x.add i).block = x.block := by unfold Addr.add; split <;> rfl

/-- The slice at a reads as the bytes l; its block's number is less than B. -/
def Bs (w : World) (B : Nat) (a : Option Addr) (l : List Int) : Prop :=
  (a = none ∧ l = []) ∨ ∃ x, a = some x ∧ ∀ i, i < l.length → x.block < B ∧ w.cell? (x.add i) = some (.int .u8 (nth l i))

theorem Bs.below {w w' : World} {B : Nat} {a : Option Addr} {l : List Int} (h : Bs w B a l) (hb : Below B w w') : Bs w' B a l := by
  rcases h with h | ⟨x, rfl, h⟩
  · exact Or.inl h
  · exact Or.inr ⟨x, rfl, fun i hi => ⟨(h i hi).1, by
      have hx := add_blk x i
      rw [hb.cell (by rw [hx]; exact (h i hi).1)]; exact (h i hi).2⟩⟩

theorem Bs.mono {w : World} {B B' : Nat} {a : Option Addr} {l : List Int} (h : Bs w B a l) (hB : B ≤ B') : Bs w B' a l := by
  rcases h with h | ⟨x, rfl, h⟩
  · exact Or.inl h
  · exact Or.inr ⟨x, rfl, fun i hi => ⟨Nat.lt_of_lt_of_le (h i hi).1 hB, (h i hi).2⟩⟩

theorem info5 : (Try.prog.info? 5).map (fun i => (i.zero, i.size, i.bytes)) = some (some (.int .u8 0), 1, 1) := by kernel_rfl

theorem size_new (w : World) (o : Obj) : (w.alloc o).heap.size = w.heap.size + 1 := by
  show (w.heap.push o).size = _; simp

/-- A row of the call's own reads as bytes. -/
theorem bs_row {w : World} {b n : Nat} {l : List Int} (h : w.rowIs b 5 n (fun i => .int .u8 (nth l i))) (hl : l.length ≤ n) (B : Nat) (hB : b < B) : Bs w B (some ⟨b, 0, none⟩) l :=
  Or.inr ⟨_, rfl, fun i hi => ⟨hB, by
    rw [show (Addr.add ⟨b, 0, none⟩ i) = ⟨b, i, none⟩ by simp [Addr.add]; intro h; rw [h]]
    exact h.cell (by omega)⟩⟩

/-- What stands in the new row behind k rounds. -/
def cpy (l : List Int) (k i : Nat) : Value := if i < k then .int .u8 (nth l i) else .int .u8 0

theorem cpy_step (l : List Int) (k i : Nat) : (if i = k then Value.int .u8 (nth l k) else cpy l k i) = cpy l (k + 1) i := by
  unfold cpy
  by_cases h : i = k
  · subst h; simp
  · rw [if_neg h]
    by_cases h2 : i < k
    · rw [if_pos h2, if_pos (by omega)]
    · rw [if_neg h2, if_neg (by omega)]

theorem eq_nil (wx : World) : (binOp .eql 22 (.slice none 0 0) (.slice none 0 0)).run Try.prog wx = .ok (.bool true) wx := by kernel_rfl
theorem eq_some (wx : World) (x : Addr) (n c : Nat) : (binOp .eql 22 (.slice (some x) n c) (.slice none 0 0)).run Try.prog wx = .ok (.bool false) wx := by kernel_rfl

/-- The answer of 'cloneBytes'. -/
def Cl (w : World) (n : Nat) (l : List Int) (e : Ending) (w' : World) : Prop := ∃ a' c', e = .returned (.slice a' n c') ∧ Below w.heap.size w w' ∧ Bs w' w'.heap.size a' l

set_option maxHeartbeats 2000000 in
set_option maxRecDepth 1000000 in
theorem clone_any (a : Option Addr) (n c B : Nat) (l : List Int) (w : World) (h : Bs w B a l) (hn : l.length = n) (hb : n ≤ 1000000) (hnil : a = none → c = 0) (hB : B ≤ w.heap.size) :
    Calls Try.prog 8 #[.slice a n c] w (Cl w n l) := by
  rcases h with ⟨rfl, rfl⟩ | ⟨x, rfl, h⟩
  · obtain rfl : n = 0 := by simpa using hn.symm
    obtain rfl := hnil rfl
    have hq := eq_nil
    go_enter Try.func8, Try.ntmps8
    go_wp2
    go_ret
    exact ⟨none, 0, rfl, Below.refl _ _, Or.inl ⟨rfl, rfl⟩⟩
  · have hq := eq_some
    have hmk1 := run_make_row' (P := Try.prog) 22 5 (.int .u8 0) 1 Try.underlying22 info5 rfl .i64 .i64 n (by omega) (by omega)
    have HC := hmk h
    clear h
    have hbI : (n : Int) ≤ 1000000 := by omega
    go_enter Try.func8, Try.ntmps8
    go_wp2
    go_loopw [4] (fun i wr => ∃ k : Nat, k ≤ n ∧ i = .int .i64 k ∧ Hid (Below w.heap.size w wr ∧ wr.rowIs w.heap.size 5 n (cpy l k))) (fun i _ => n - (intOf i).toNat)
    case atStart => exact ⟨0, by omega, rfl, (Below.refl _ _).alloc (Nat.le_refl _) _, (World.rowIs_made w (.int .u8 0) n 5).congr (fun i _ => by simp [cpy])⟩
    case round =>
      obtain ⟨k, hk, rfl, HR⟩ := hrel
      by_cases hlt : (k : Int) < n
      · have hlt' : k < n := by omega
        have hc1 := HC.out k (by omega)
        have hcx : wr.cell? (x.add k) = some (.int .u8 (nth l k)) := by
          rw [HR.out.1.cell (p := x.add k) (by rw [add_blk]; exact Nat.lt_of_lt_of_le hc1.1 hB)]; exact hc1.2
        have hcy : wr.cell? ⟨w.heap.size, k, none⟩ = some (cpy l k k) := HR.out.2.cell hlt'
        have hfz : wr.frozen? ⟨w.heap.size, k, none⟩ = false := HR.out.2.frozen k
        have hk0 : (0 : Int) ≤ (k : Int) := by omega
        clear hc1
        go_wp2
        refine ⟨⟨k + 1, by omega, by simp, HR.out.1.setCell (p := ⟨w.heap.size, k, none⟩) (Nat.le_refl _) _, (HR.out.2.set k _).congr (fun i _ => cpy_step l k i)⟩, ?_⟩
        simp only [intOf]
        omega
      · obtain rfl : k = n := by omega
        go_wp2
        go_ret
        exact ⟨_, _, rfl, HR.out.1, bs_row (HR.out.2.congr (fun i hi => by simp [cpy, hi])) (by omega) _ HR.out.2.lt⟩
end Go.Proofs.Qxb6602991a
