import Derived.Test.Qxb6602721aSheetNew
import Derived.Test.Qxb6602721aSheetCol
import Derived.Deep.QuietTactic
import Derived.BigQuiet
namespace Go.Proofs.Qxb6602721a.Sheet
open Go.RowKit

set_option maxHeartbeats 2000000 in
set_option maxRecDepth 1000000 in
theorem zz_any (c N : Nat) (ln : Int) (w : World) (hc : c ≤ 65536) (hN : N ≤ 65536) (hln : wrap64 (ln * c) = N) :
    Calls Try.prog 7 #[.int .i64 c, .int .i64 ln] w fun e w' => ∃ g1 g2 : Nat, e = .returned (.tuple #[.slice (some ⟨g1, 0, none⟩) c c, .slice (some ⟨g2, 0, none⟩) c c, .int .i64 0, .slice none 0 0, .int .i64 0]) ∧ Below w.heap.size w w' ∧
      w'.rowIs g1 9 c (fun j => .string (st (name j))) ∧ w'.rowIs g2 3 c (fun _ => .int .i64 0) := by
  go_enter Try.func7, Try.ntmps7
  go_wp2_with (go_at_call 14; refine (new_any c N ln _ hc hN hln).mono ?_; rintro e w' ⟨b, g1, g2, p, cap, rfl, hB, hp, hn1, hn2⟩; have c1 : w'.cell? ⟨b, 1, none⟩ = some (.slice p 0 cap) := (by rw [Lib.cell_of_heap hp]; rfl); have c2 : w'.cell? ⟨b, 2, none⟩ = some (.int .i64 0) := (by rw [Lib.cell_of_heap hp]; rfl); have c3 : w'.cell? ⟨b, 3, none⟩ = some (.slice (some ⟨g1, 0, none⟩) c c) := (by rw [Lib.cell_of_heap hp]; rfl); have c4 : w'.cell? ⟨b, 4, none⟩ = some (.slice (some ⟨g2, 0, none⟩) c c) := (by rw [Lib.cell_of_heap hp]; rfl); have c5 : w'.cell? ⟨b, 5, none⟩ = some (.slice none 0 0) := (by rw [Lib.cell_of_heap hp]; rfl); clear hp)
  go_quiet ((go_at_call 15; exact Calls.quiet_of_same (len_any b _ p cap (by simp [c1]))))
  go_wp2
  exact bodyPost_ret (v := .tuple #[.slice (some ⟨g1, 0, none⟩) c c, .slice (some ⟨g2, 0, none⟩) c c, .int .i64 0, .slice none 0 0, .int .i64 0]) (by simp [results, Try.results7, go_sem]) rfl ⟨g1, g2, rfl, below_drewN hB _, hn1.of_block (by simp), hn2.of_block (by simp)⟩
end Go.Proofs.Qxb6602721a.Sheet
