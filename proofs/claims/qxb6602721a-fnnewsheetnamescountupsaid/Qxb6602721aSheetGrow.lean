import Derived.Test.Qxb6602721aRows
import Derived.Test.Qxb6602721aSheetPlain
import Derived.WalkKit
import Derived.ProofKit
import Derived.WalkLawsBesides
import Derived.Lib.MakeNoZero
import Derived.Lib.Builder
import Derived.Laws.IdiomCopy
import Derived.BigRegion
import Derived.Deep.RegionHeld3
namespace Go.Proofs.Qxb6602721a.Sheet
open Go.RowKit

theorem info37 : (Try.prog.info? 37).map (·.size) = some 2 := by kernel_rfl
theorem lies37 : liesAt Try.prog Try.prog.depth 39 (6 / Try.prog.cellsOf 39) 0 37 1 = true := by kernel_rfl
theorem info5 : (Try.prog.info? 5).map (·.size) = some 1 := by kernel_rfl

theorem to_raw (w : World) {e : TypeId} {j : TypeInfo} {cells : Nat} (a : Addr) (ht : Try.prog.info? 37 = some j) (hj : j.size ≠ 0)
    (hsh : w.shape? a.block = some (e, cells)) (hoff : a.off < cells) :
    (convert 34 43 (.pointer (some a))).run Try.prog w = .ok (.pointer (some a)) w := by
  have u34 := run_underlying Try.underlying34
  have u43 := run_underlying Try.underlying43
  simp only [convert, Sem.run_bind, u34, u43, Result.andThen_ok]
  change Sem.run Try.prog (underlying 34 >>= _) w = _
  simp only [Sem.run_bind, u34, u43, Result.andThen_ok]
  simp [Conv.seenAt, viewAt, cellsIn, hsh, sizeOf, typeInfo, ht, hj]
  intro h
  omega

theorem from_raw (w : World) {e : TypeId} {j : TypeInfo} {cells : Nat} (a : Addr) (hu : Try.prog.info? 37 = some j)
    (hsh : w.shape? a.block = some (e, cells)) (hlies : liesAt Try.prog Try.prog.depth e (cells / Try.prog.cellsOf e) a.off 37 1 = true) :
    (convert 43 34 (.pointer (some a))).run Try.prog w = .ok (.pointer (some a)) w := by
  have u34 := run_underlying Try.underlying34
  have u43 := run_underlying Try.underlying43
  simp only [convert, Sem.run_bind, u34, u43, Result.andThen_ok]
  change Sem.run Try.prog (underlying 43 >>= _) w = _
  simp only [Sem.run_bind, u34, u43, Result.andThen_ok]
  simp [Conv.seenAt, viewAt, hsh, variablesAt, hlies, sizeOf, typeInfo, hu]

set_option maxRecDepth 1000000 in
set_option maxHeartbeats 1000000 in
theorem copyCheck_any (b : Nat) (w : World) (h0 : w.cell? ⟨b, 0, none⟩ = some (.pointer none)) (hsh : w.shape? b = some (39, 6)) (hfz : w.frozen? ⟨b, 0, none⟩ = false) :
    Calls Try.prog 19 #[.pointer (some ⟨b, 0, none⟩)] w fun e w' => e = .returned (.tuple #[]) ∧ w' = w.setCell ⟨b, 0, none⟩ (.pointer (some ⟨b, 0, none⟩)) := by
  obtain ⟨j, hj, hjs⟩ := Option.map_eq_some_iff.1 info37
  have hto := to_raw w ⟨b, 0, none⟩ hj (by rw [hjs]; decide) hsh (Nat.zero_lt_succ 5)
  have hfrom := from_raw w ⟨b, 0, none⟩ hj hsh lies37
  have hcall : (callFunc 21 #[.pointer (some ⟨b, 0, none⟩)]).run Try.prog w = .ok (.value (.pointer (some ⟨b, 0, none⟩))) w := by
    rw [run_callFunc_extern Try.func21 (by kernel_rfl) (by kernel_rfl) (by kernel_rfl) (e := Extern.AbiNoEscape.same) (by kernel_rfl), Lib.run_noEscape]
    rfl
  have hne := fun wx => Lib.run_neq_ptr_same (P := Try.prog) wx ⟨b, 0, none⟩ Try.underlying34 hj
  clear hj hjs
  go_enter Try.func19, Try.ntmps19
  go_wp2
  go_end0
  exact ⟨rfl, rfl⟩

set_option maxHeartbeats 2000000 in
set_option maxRecDepth 1000000 in
theorem grow_inner (b n : Nat) (w : World) (x2 x3 x4 x5 : Value) (hbk : w.heap[b]? = some (.cells #[.pointer (some ⟨b, 0, none⟩), .slice none 0 0, x2, x3, x4, x5] 39 (0, 0))) (hn : n ≤ 2097152) :
    Calls Try.prog 20 #[.pointer (some ⟨b, 0, none⟩), .int .i64 n] w fun e w' => e = .returned (.tuple #[]) ∧
      (∃ p cap, w'.heap[b]? = some (.cells #[.pointer (some ⟨b, 0, none⟩), .slice p 0 cap, x2, x3, x4, x5] 39 (0, 0))) ∧ w.grownBy w' (some b) := by
  obtain ⟨cs, hrun, hle, hmax⟩ := Lib.run_makeNoZero (P := Try.prog) w.drew #[3] 35 5 Try.underlying35 n (by omega)
  have hw : IntKind.i64.wrap (IntKind.i64.wrap 0 + (n : Int)) = n := by
    rw [IntKind.wrap_i64, IntKind.wrap_i64]
    omega
  have hcall : (callFunc 22 #[.int .i64 (IntKind.i64.wrap (IntKind.i64.wrap 0 + (n : Int)))]).run Try.prog w.drew = .ok (.value (.slice (some ⟨w.drew.heap.size, 0, none⟩) n cs.size)) (w.drew.drew.drew.alloc (.cells cs 5)) := by
    rw [hw, run_callFunc_extern Try.func22 (by kernel_rfl) (by kernel_rfl) (by kernel_rfl) (e := Extern.BytealgMakeNoZero.makeNoZero #[3] #[35]) (by kernel_rfl), hrun]
    rfl
  have hlt : b < w.heap.size := by
    rcases Nat.lt_or_ge b w.heap.size with h' | h'
    · exact h'
    · simp [Array.getElem?_eq_none h'] at hbk
  have c1 : w.drew.cell? ⟨b, 1, none⟩ = some (.slice none 0 0) := by
    have : w.drew.heap[b]? = _ := hbk
    rw [Lib.cell_of_heap this]; rfl
  have hb2 : (w.alloc (.cells cs 5)).heap[b]? = _ := (Lib.alloc_old w (.cells cs 5) b hlt).trans hbk
  have c2 : (w.alloc (.cells cs 5)).cell? ⟨b, 1, none⟩ = some (.slice none 0 0) := by rw [Lib.cell_of_heap hb2]; rfl
  have f2 : (w.alloc (.cells cs 5)).frozen? ⟨b, 1, none⟩ = false := Lib.frozen_of_heap hb2 1
  have hcopy : ∀ W : World, (Builtin.copy_ #[35, 35] 3 #[.slice (some ⟨w.heap.size, 0, none⟩) 0 cs.size, .slice none 0 0]).run Try.prog W = .ok (goInt 0) W :=
    fun W => run_copy_none W 35 35 3 5 _ _ 0 cs.size 0 0 Try.underlying35 info5 rfl
  have hfin : (∃ p cap, ((w.setCell ⟨b, 1, none⟩ (.slice (some ⟨w.heap.size, 0, none⟩) 0 cs.size)).alloc (.cells cs 5)).heap[b]? = some (.cells #[.pointer (some ⟨b, 0, none⟩), .slice p 0 cap, x2, x3, x4, x5] 39 (0, 0))) ∧
      w.grownBy ((w.setCell ⟨b, 1, none⟩ (.slice (some ⟨w.heap.size, 0, none⟩) 0 cs.size)).alloc (.cells cs 5)) (some b) := by
    refine ⟨⟨some ⟨w.heap.size, 0, none⟩, cs.size, ?_⟩, rfl, rfl, rfl, by simp [World.setCell], fun k hk hne => ?_⟩
    · rw [Below.heap_alloc _ _ _ (by simpa [World.setCell] using hlt)]
      simp only [World.setCell, Array.getElem?_modify, if_true, hbk]
      rfl
    · rw [Below.heap_alloc _ _ _ (by simpa [World.setCell] using hk), Below.heap_setCell _ _ _ _ (fun e => hne (by rw [e]))]
  clear hbk hb2 hw
  go_enter Try.func20, Try.ntmps20
  go_wp2
  go_region_held3 (fun w' => w'.cell? ⟨b, 1, none⟩ = some (.slice none 0 0)) (go_keep) (fail)
  all_goals (go_wp2; go_end0; exact ⟨rfl, hfin.1, hfin.2.os, hfin.2.tape, hfin.2.output, hfin.2.size, hfin.2.block⟩)

set_option maxHeartbeats 2000000 in
set_option maxRecDepth 1000000 in
theorem grow_any (b n : Nat) (w : World) (x2 x3 x4 x5 : Value) (hbk : w.heap[b]? = some (.cells #[.pointer none, .slice none 0 0, x2, x3, x4, x5] 39 (0, 0))) (hn : n ≤ 2097152) :
    Calls Try.prog 18 #[.pointer (some ⟨b, 0, none⟩), .int .i64 n] w fun e w' => e = .returned (.tuple #[]) ∧
      (∃ p cap, w'.heap[b]? = some (.cells #[.pointer (some ⟨b, 0, none⟩), .slice p 0 cap, x2, x3, x4, x5] 39 (0, 0))) ∧ w.grownBy w' (some b) := by
  have c0 : w.cell? ⟨b, 0, none⟩ = some (.pointer none) := by rw [Lib.cell_of_heap hbk]; rfl
  have s0 : w.shape? b = some (39, 6) := by simp [World.shape?, hbk]
  have f0 : w.frozen? ⟨b, 0, none⟩ = false := Lib.frozen_of_heap hbk 0
  have hb1 : (w.setCell ⟨b, 0, none⟩ (.pointer (some ⟨b, 0, none⟩))).heap[b]? = some (.cells #[.pointer (some ⟨b, 0, none⟩), .slice none 0 0, x2, x3, x4, x5] 39 (0, 0)) := by
    simp only [World.setCell, Array.getElem?_modify, if_true, hbk]
    rfl
  have c1 : (w.setCell ⟨b, 0, none⟩ (.pointer (some ⟨b, 0, none⟩))).cell? ⟨b, 1, none⟩ = some (.slice none 0 0) := by rw [Lib.cell_of_heap hb1]; rfl
  have hg1 : w.grownBy (w.setCell ⟨b, 0, none⟩ (.pointer (some ⟨b, 0, none⟩))) (some b) :=
    ⟨rfl, rfl, rfl, by simp [World.setCell], fun k hk hne => Below.heap_setCell _ _ _ _ (fun e => hne (by rw [e]))⟩
  have HB : Hid ((w.setCell ⟨b, 0, none⟩ (.pointer (some ⟨b, 0, none⟩))).heap[b]? = some (.cells #[.pointer (some ⟨b, 0, none⟩), .slice none 0 0, x2, x3, x4, x5] 39 (0, 0))) := hb1
  clear hbk hb1
  have hw0 : IntKind.i64.wrap 0 = 0 := by rw [IntKind.wrap_i64]; omega
  by_cases h0 : (0 : Int) < n
  · go_enter Try.func18, Try.ntmps18
    go_wp2_with (go_at_call 19; refine (copyCheck_any b w c0 s0 f0).mono ?_; rintro e w' ⟨rfl, rfl⟩)
    go_region_held3 (fun w' => w'.cell? ⟨b, 1, none⟩ = some (.slice none 0 0)) (go_keep) (fail)
    go_wp2_with (go_at_call 20; refine (grow_inner b n _ x2 x3 x4 x5 (by exact HB.out) hn).mono ?_; rintro e w' ⟨rfl, hp, hg⟩)
    go_end0
    exact ⟨rfl, hp, hg.os.trans hg1.os, hg.tape.trans hg1.tape, hg.output.trans hg1.output, Nat.le_trans hg1.size hg.size, fun k hk hne => (hg.block k (Nat.lt_of_lt_of_le hk hg1.size) hne).trans (hg1.block k hk hne)⟩
  · obtain rfl : n = 0 := by omega
    go_enter Try.func18, Try.ntmps18
    go_wp2_with (go_at_call 19; refine (copyCheck_any b w c0 s0 f0).mono ?_; rintro e w' ⟨rfl, rfl⟩)
    go_region_held3 (fun w' => w'.cell? ⟨b, 1, none⟩ = some (.slice none 0 0)) (go_keep) (fail)
    go_wp2
    go_end0
    exact ⟨rfl, ⟨_, _, HB.out⟩, hg1.os, hg1.tape, hg1.output, hg1.size, hg1.block⟩

set_option maxHeartbeats 2000000 in
set_option maxRecDepth 1000000 in
theorem len_any (b : Nat) (w : World) (p : Option Addr) (cap : Nat) (c1 : w.cell? ⟨b, 1, none⟩ = some (.slice p 0 cap)) :
    Calls Try.prog 15 #[.pointer (some ⟨b, 0, none⟩)] w fun e w' => e = .returned (.int .i64 0) ∧ w' = w := by
  go_enter Try.func15, Try.ntmps15
  go_wp2
  go_ret
  exact ⟨rfl, rfl⟩
end Go.Proofs.Qxb6602721a.Sheet
