import Derived.Test.Qxb6602721aSuccPlain
import Derived.Test.Qxb6602721aSheetZZ
namespace Go.Proofs.Qxb6602721a.Sheet
open Go.RowKit

theorem info5b : (Try.prog.info? 5).map (fun i => (i.zero, i.size, i.bytes)) = some (some (.int .u8 0), 1, 1) := by kernel_rfl

/-- What the row holds while it is being copied. -/
def copied (l : List UInt8) (j t : Nat) : Int := if t < j then num l t else 0

theorem num_bd (l : List UInt8) (t : Nat) : 0 ≤ num l t ∧ num l t ≤ 255 := by
  unfold num; have := (l.getD t 0).toNat_lt; omega

theorem ret_str' {a b : List UInt8} (h : a = b) : Ending.returned (.string (st a)) = .returned (.string (st b)) := by rw [h]

set_option maxHeartbeats 2000000 in
set_option maxRecDepth 1000000 in
theorem succ_any (l : List UInt8) (w : World) (hl : l.length ≤ 65536) (hL : ∀ t, t < l.length → num l t ≤ 90) :
    Calls Try.prog 9 #[.string (st l)] w fun e w' => e = .returned (.string (st (succL l))) ∧ Below w.heap.size w w' := by
  have hm5 := run_make_row' (P := Try.prog) 35 5 (.int .u8 0) 1 Try.underlying35 info5b rfl .i64 .i64 l.length (by omega) (by omega)
  have hsz := st_size l
  have HL : Hid (∀ t, t < l.length → num l t ≤ 90) := hL
  clear hL
  go_enter Try.func9, Try.ntmps9
  go_wp2
  have H0 : Hid ((w.alloc (.cells (madeCells #[.int .u8 0] l.length) 5)).rowIs w.heap.size 5 l.length (fun t => .int .u8 (copied l 0 t))) :=
    (World.rowIs_made w (.int .u8 0) l.length 5).congr (fun t _ => by simp [copied])
  go_loopw [4] (fun i wr => ∃ k : Nat, k ≤ l.length ∧ i = .int .i64 k ∧ Hid (wr.rowIs w.heap.size 5 l.length (fun t => .int .u8 (copied l k t))) ∧ Hid (Below w.heap.size w wr)) (fun i _ => l.length - (intOf i).toNat)
  case atStart => exact ⟨0, by omega, rfl, H0, (Below.refl _ _).alloc (Nat.le_refl _) _⟩
  case round =>
    obtain ⟨k, hk, rfl, HR, HB⟩ := hrel
    by_cases hlt : (k : Int) < l.length
    · have hks : k < (st l).size := by rw [st_size]; omega
      have hk0 : (0 : Int) ≤ (k : Int) := by omega
      have hat := num_at l k hks
      have ck : wr.cell? ⟨w.heap.size, k, none⟩ = some (.int .u8 (copied l k k)) := HR.out.cell (by omega)
      have fk : wr.frozen? ⟨w.heap.size, k, none⟩ = false := HR.out.frozen k
      go_wp2
      go_roundw
      case rel => exact ⟨k + 1, by omega, by go_num, (HR.out.set k _).congr (fun t _ => by unfold copied; by_cases e : t = k; (subst e; rw [if_pos rfl, if_pos (by omega)]); (rw [if_neg e]; by_cases e2 : t < k; (rw [if_pos e2, if_pos (by omega)]); (rw [if_neg e2, if_neg (by omega)]))), HB.out.setCell (Nat.le_refl _) _⟩
      case measure => simp [intOf]; omega
    · obtain rfl : k = l.length := by omega
      have H1 : Hid (wr.rowIs w.heap.size 5 l.length (fun t => .int .u8 (back l l.length t))) := HR.out.congr (fun t ht => by unfold copied back; rw [if_pos ht, if_pos ht])
      clear HR
      go_wp2
      obtain ⟨wo, rfl⟩ : ∃ wo : World, wo = wr := ⟨_, rfl⟩
      go_loopw [5] (fun i wr => ∃ j : Nat, j ≤ l.length ∧ i = .int .i64 ((j : Int) - 1) ∧ Hid (∀ t, j ≤ t → t < l.length → num l t = 90) ∧ Hid (wr.rowIs w.heap.size 5 l.length (fun t => .int .u8 (back l j t))) ∧ Hid (Below w.heap.size w wr)) (fun i _ => (intOf i + 1).toNat)
      case atStart => exact ⟨l.length, by omega, rfl, fun t h1 h2 => by omega, H1, HB⟩
      case round =>
        obtain ⟨j, hj, rfl, HZ, HR, HB'⟩ := hrel
        by_cases hj0 : (0 : Int) ≤ (j : Int) - 1
        · obtain ⟨q, rfl⟩ : ∃ q : Nat, j = q + 1 := ⟨j - 1, by omega⟩
          have eq1 : ((q + 1 : Nat) : Int) - 1 = (q : Int) := by omega
          rw [eq1]
          clear eq1 hj0
          have hq0 : (0 : Int) ≤ (q : Int) := by omega
          have hql : (q : Int) < l.length := by omega
          have ck : wr.cell? ⟨w.heap.size, q, none⟩ = some (.int .u8 (num l q)) := by rw [HR.out.cell (by omega)]; unfold back; rw [if_pos (by omega)]
          have fk : wr.frozen? ⟨w.heap.size, q, none⟩ = false := HR.out.frozen q
          have hnb := num_bd l q
          by_cases hz : (num l q == 90) = true
          · go_wp2
            go_roundw
            case rel => exact ⟨q, by omega, rfl, fun t h1 h2 => by (by_cases e : t = q; (subst e; simpa using hz); exact HZ.out t (by omega) h2), (HR.out.set q _).congr (fun t _ => by unfold back; by_cases e : t = q; (subst e; rw [if_pos rfl, if_neg (by omega)]); (rw [if_neg e]; by_cases e2 : t < q; (rw [if_pos e2, if_pos (by omega)]); (rw [if_neg e2, if_neg (by omega)]))), HB'.out.setCell (Nat.le_refl _) _⟩
            case measure => simp [intOf]
          · have hz' : (num l q == 90) = false := by simpa using hz
            have h90 : num l q ≤ 90 := HL.out q (by omega)
            have hcv : (convert 35 9 (.slice (some ⟨w.heap.size, 0, none⟩) l.length l.length)).run Try.prog (wr.setCell ⟨w.heap.size, q, none⟩ (.int .u8 (num l q + 1))) = .ok (.string (st (succL l))) (wr.setCell ⟨w.heap.size, q, none⟩ (.int .u8 (num l q + 1))) :=
              run_string_row _ 35 9 5 _ l.length l.length (fun t => if t = q then num l q + 1 else back l (q + 1) t) _ Try.underlying35 Try.underlying5 Try.underlying9
                (fun t ht => by rw [(HR.out.set q _).cell ht]; by_cases e : t = q <;> simp [e])
                (succ_found l q (by omega) (fun t h1 h2 => HZ.out t (by omega) h2) (by simpa using hz) h90)
            have HB2 := HB'.out.setCell (p := ⟨w.heap.size, q, none⟩) (Nat.le_refl _) (.int .u8 (num l q + 1))
            go_wp2
            go_ret
            exact ⟨rfl, HB2⟩
        · obtain rfl : j = 0 := by omega
          have hcv : (convert 35 9 (.slice (some ⟨w.heap.size, 0, none⟩) l.length l.length)).run Try.prog wr = .ok (.string (st ((List.range l.length).map (fun t => by8' (back l 0 t))))) wr :=
              run_string_row _ 35 9 5 _ l.length l.length (fun t => back l 0 t) _ Try.underlying35 Try.underlying5 Try.underlying9
                (fun t ht => HR.out.cell ht) rfl
          obtain ⟨m, hm⟩ : ∃ m, m = (List.range l.length).map (fun t => by8' (back l 0 t)) := ⟨_, rfl⟩
          have hml : m.length ≤ 65536 := by rw [hm]; simp; omega
          have HM : Hid (succL l = 65 :: m) := by rw [hm]; exact succ_roll l (fun t ht => HZ.out t (by omega) ht)
          rw [← hm] at hcv
          clear hm
          have hms := st_size m
          have h65 : ({ data := #[65] } : ByteArray) ++ st m = st (65 :: m) := st_app [65] m
          have h1s : ({ data := #[65] } : ByteArray).size = 1 := rfl
          go_wp2
          go_ret
          exact ⟨ret_str' HM.out.symm, HB'.out⟩
end Go.Proofs.Qxb6602721a.Sheet
