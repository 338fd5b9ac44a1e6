import Derived.Test.Qxb6603696aArray
namespace Go.Proofs.Qxb6603696a
open Go.RowKit

/-- The type's bits by 'other'. -/
def tyOf (o : Int) : Int := if o < 0 then 16 else 0

theorem typeOf_any' (r : Nat) (w : World) (oth : Int) (c5 : w.cell? ⟨r, 5, none⟩ = some (.int .i64 oth)) (hr : r < w.heap.size) (nsec bits : Int) (bo isI : Bool) (s : ByteArray) :
    Calls Try.prog 21 #[.agg #[.int .u8 4, .bool bo, .int .i32 nsec, .bool isI, .int .u64 bits, .string s, .pointer (some ⟨r, 0, none⟩)]] w fun e w' => e = .returned (.int .u8 (tyOf oth)) ∧ Below w.heap.size w w' :=
  typeOf_any r w oth c5 hr nsec bits bo isI s

set_option maxHeartbeats 4000000 in
set_option maxRecDepth 1000000 in
theorem zzBuilt_any (b : Nat) (w : World) (L S : Int) (V : Nat → Value) (X : Nat → List Value) (h : Bld w b L S V X) (es : List El) (hr : Rep V X es) (hn : es.length ≤ 16384) (hz : bytesOf (strsOf es) (strsOf es).length ≤ 1048576) :
    Calls Try.prog 14 #[.pointer (some ⟨b, 0, none⟩)] w fun e w' => e = .returned (.tuple #[.int .u8 (tyOf (otherOf es)), .int .i64 (otherOf es), .int .i64 (sizeOf es), .int .i64 es.length]) ∧ Below w.heap.size w w' := by
  have HH := Hid.mk (And.intro h hr)
  clear h hr
  go_enter Try.func14, Try.ntmps14
  go_upto_region 1 with (fail)
  go_cut [6] (fun t wr => ∃ h r, t = .pointer (some ⟨h, 0, none⟩) ∧ wr.heap[h]? = some (.cells #[.int .u8 4, .bool false, .int .i32 0, .bool false, .int .u64 0, .string ByteArray.empty, .pointer (some ⟨r, 0, none⟩)] 50 (0, 0)) ∧
    ArrAt wr r V (otherOf es) (sizeOf es) ∧ Below w.heap.size w wr)
  case first =>
    go_wp2_with (go_at_call 20; refine (array_any b _ L S V X HH.out.1 es HH.out.2 hn hz).mono ?_; rintro e w' ⟨r, rfl, hA, hBe, hlt⟩)
    go_meet
    case rel => exact ⟨_, r, rfl, heap_alloc_new w' _, (Below.heap_alloc _ _ _ (Array.getElem?_eq_some_iff.1 hA).1).trans hA, hBe.alloc hBe.size _⟩
  case rest =>
    obtain ⟨h, r, rfl, hbx, hA, hBe⟩ := hcut
    have k0 : wc.cell? ⟨h, 0, none⟩ = some (.int .u8 4) := by rw [Lib.cell_of_heap hbx]; rfl
    have k1 : wc.cell? ⟨h, 1, none⟩ = some (.bool false) := by rw [Lib.cell_of_heap hbx]; rfl
    have k2 : wc.cell? ⟨h, 2, none⟩ = some (.int .i32 0) := by rw [Lib.cell_of_heap hbx]; rfl
    have k3 : wc.cell? ⟨h, 3, none⟩ = some (.bool false) := by rw [Lib.cell_of_heap hbx]; rfl
    have k4 : wc.cell? ⟨h, 4, none⟩ = some (.int .u64 0) := by rw [Lib.cell_of_heap hbx]; rfl
    have k5 : wc.cell? ⟨h, 5, none⟩ = some (.string ByteArray.empty) := by rw [Lib.cell_of_heap hbx]; rfl
    have k6 : wc.cell? ⟨h, 6, none⟩ = some (.pointer (some ⟨r, 0, none⟩)) := by rw [Lib.cell_of_heap hbx]; rfl
    have r5 : wc.cell? ⟨r, 5, none⟩ = some (.int .i64 (otherOf es)) := by rw [Lib.cell_of_heap hA]; rfl
    have r6 : wc.cell? ⟨r, 6, none⟩ = some (.int .i64 (sizeOf es)) := by rw [Lib.cell_of_heap hA]; rfl
    have hh : h < wc.heap.size := (Array.getElem?_eq_some_iff.1 hbx).1
    have hrl : r < wc.heap.size := (Array.getElem?_eq_some_iff.1 hA).1
    have HA := Hid.mk (And.intro hA hBe)
    clear hbx hA hBe
    go_wp2
    go_region_held3 (fun x => (x.cell? ⟨h, 0, none⟩ = some (.int .u8 4) ∧ x.cell? ⟨h, 1, none⟩ = some (.bool false) ∧ x.cell? ⟨h, 2, none⟩ = some (.int .i32 0) ∧ x.cell? ⟨h, 3, none⟩ = some (.bool false) ∧ x.cell? ⟨h, 4, none⟩ = some (.int .u64 0) ∧ x.cell? ⟨h, 5, none⟩ = some (.string ByteArray.empty) ∧ x.cell? ⟨h, 6, none⟩ = some (.pointer (some ⟨r, 0, none⟩)) ∧ x.cell? ⟨r, 5, none⟩ = some (.int .i64 (otherOf es)) ∧ x.cell? ⟨r, 6, none⟩ = some (.int .i64 (sizeOf es))))
      (first | go_keep | (exact ⟨(hb.cell (p := ⟨h, 0, none⟩) hh).trans k0, (hb.cell (p := ⟨h, 1, none⟩) hh).trans k1, (hb.cell (p := ⟨h, 2, none⟩) hh).trans k2, (hb.cell (p := ⟨h, 3, none⟩) hh).trans k3, (hb.cell (p := ⟨h, 4, none⟩) hh).trans k4, (hb.cell (p := ⟨h, 5, none⟩) hh).trans k5, (hb.cell (p := ⟨h, 6, none⟩) hh).trans k6, (hb.cell (p := ⟨r, 5, none⟩) hrl).trans r5, (hb.cell (p := ⟨r, 6, none⟩) hrl).trans r6⟩))
      ((first | (go_at_call 21; refine (typeOf_any' r _ (otherOf es) (by exact r5) (by exact hrl) 0 0 false false ByteArray.empty).mono ?_; rintro e w3 ⟨rfl, hb⟩) | (go_at_call 18; refine (len_any r _ V X es (otherOf es) (sizeOf es) (by first | exact HA.out.1 | exact (hb.block r hrl).trans HA.out.1) HH.out.2).mono ?_; rintro e w4 ⟨rfl, rfl⟩)))
    go_wp2
    exact bodyPost_ret (v := .tuple #[.int .u8 (tyOf (otherOf es)), .int .i64 (otherOf es), .int .i64 (sizeOf es), .int .i64 es.length]) (by simp [results, Try.results14, go_sem]) rfl ⟨rfl, HA.out.2.drew.trans (hb.mono HA.out.2.size)⟩
end Go.Proofs.Qxb6603696a
