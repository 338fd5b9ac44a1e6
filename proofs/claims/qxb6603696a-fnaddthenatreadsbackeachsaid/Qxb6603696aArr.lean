import Derived.Test.Qxb6603696aZZAdd
namespace Go.Proofs.Qxb6603696a
open Go.RowKit

/-- The array in memory, block r. -/
def ArrAt (w : World) (r : Nat) (V : Nat → Value) (oth sz : Int) : Prop :=
  w.heap[r]? = some (.cells #[.slice none 0 0, V 2, V 3, V 4, V 5, .int .i64 oth, .int .i64 sz, .pointer none, .slice none 0 0] 61 (0, 0))

theorem neqNil40 (w : World) (a : Option Addr) (n c : Nat) : (binOp .neq 40 (.slice a n c) (.slice none 0 0)).run Try.prog w = .ok (.bool (!a.isNone)) w := run_neq_slice_nil_any w 40 27 a n c 0 0 und40
theorem neqNil41 (w : World) (a : Option Addr) (n c : Nat) : (binOp .neq 41 (.slice a n c) (.slice none 0 0)).run Try.prog w = .ok (.bool (!a.isNone)) w := run_neq_slice_nil_any w 41 9 a n c 0 0 und41
theorem neqNil42 (w : World) (a : Option Addr) (n c : Nat) : (binOp .neq 42 (.slice a n c) (.slice none 0 0)).run Try.prog w = .ok (.bool (!a.isNone)) w := run_neq_slice_nil_any w 42 46 a n c 0 0 und42

set_option maxHeartbeats 2000000 in
set_option maxRecDepth 1000000 in
theorem content_any (b : Nat) (w : World) (L S : Int) (V : Nat → Value) (X : Nat → List Value) (h : Bld w b L S V X) :
    Calls Try.prog 17 #[.pointer (some ⟨b, 0, none⟩)] w fun e w' => e = .returned (.pointer (some ⟨w.heap.size, 0, none⟩)) ∧ ArrAt w' w.heap.size V (-1) 0 ∧ Below w.heap.size w w' := by
  obtain ⟨a2, k2, e2, -, -⟩ := form h 2 (by decide) (by decide)
  obtain ⟨a3, k3, e3, -, -⟩ := form h 3 (by decide) (by decide)
  obtain ⟨a4, k4, e4, -, -⟩ := form h 4 (by decide) (by decide)
  obtain ⟨a5, k5, e5, -, -⟩ := form h 5 (by decide) (by decide)
  have c2 := h.cell2
  have c3 := h.cell3
  have c4 := h.cell4
  have c5 := h.cell5
  rw [e2] at c2
  rw [e3] at c3
  rw [e4] at c4
  rw [e5] at c5
  have hbw := h.lt
  have HE := Hid.mk (And.intro e2 (And.intro e3 (And.intro e4 e5)))
  clear h e2 e3 e4 e5
  go_enter Try.func17, Try.ntmps17
  go_wp2
  go_region_held3 (fun w' => w'.cell? ⟨b, 2, none⟩ = some (.slice a2 (X 2).length k2) ∧ w'.cell? ⟨b, 3, none⟩ = some (.slice a3 (X 3).length k3) ∧ w'.cell? ⟨b, 4, none⟩ = some (.slice a4 (X 4).length k4) ∧ w'.cell? ⟨b, 5, none⟩ = some (.slice a5 (X 5).length k5)) (go_keep) (fail)
  go_wp2
  go_ret
  refine ⟨rfl, ?_, ((Below.refl _ _).alloc (Nat.le_refl _) _).drew⟩
  unfold ArrAt
  rw [HE.out.1, HE.out.2.1, HE.out.2.2.1, HE.out.2.2.2]
  exact heap_alloc_new w _

theorem Rep.x4 {V : Nat → Value} {X : Nat → List Value} {es : List El} (h : Rep V X es) : X 4 = strV es := by
  rcases h with ⟨rfl, v2, v3, v4, v5, x2, x3, x4, x5⟩ | ⟨hall, v5, v4, x4, x2, x3, g, cap, v2⟩ | ⟨hall, v5, v2, x4, g, cap, v4⟩ | m3
  · exact x4
  · rw [x4, strV_none es hall]
  · exact x4
  · exact m3.2.2.2.1

set_option maxHeartbeats 2000000 in
set_option maxRecDepth 1000000 in
theorem len_any (r : Nat) (w : World) (V : Nat → Value) (X : Nat → List Value) (es : List El) (oth sz : Int) (ha : ArrAt w r V oth sz) (hr : Rep V X es) :
    Calls Try.prog 18 #[.pointer (some ⟨r, 0, none⟩)] w fun e w' => e = .returned (.int .i64 es.length) ∧ w' = w := by
  have n40 := neqNil40
  have n41 := neqNil41
  have c0 : w.cell? ⟨r, 0, none⟩ = some (.slice none 0 0) := by rw [Lib.cell_of_heap ha]; rfl
  have c1 : w.cell? ⟨r, 1, none⟩ = some (V 2) := by rw [Lib.cell_of_heap ha]; rfl
  have c3 : w.cell? ⟨r, 3, none⟩ = some (V 4) := by rw [Lib.cell_of_heap ha]; rfl
  clear ha
  rcases hr with ⟨rfl, v2, v3, v4, v5, x2, x3, x4, x5⟩ | ⟨hall, v5, v4, x4, x2, x3, g, cap, v2⟩ | ⟨hall, v5, v2, x4, g, cap, v4⟩ | ⟨x5, x2, x3, x4, ⟨g5, cap5, v5⟩, g, cap, v2⟩
  · rw [v2] at c1
    rw [v4] at c3
    clear v2 v3 v4 v5 x2 x3 x4 x5
    go_enter Try.func18, Try.ntmps18
    go_wp2
    go_ret
    exact ⟨rfl, rfl⟩
  · rw [v2] at c1
    clear hall v2 v4 v5 x2 x3 x4 c3
    go_enter Try.func18, Try.ntmps18
    go_wp2
    go_ret
    exact ⟨rfl, rfl⟩
  · rw [v2] at c1
    rw [v4] at c3
    clear hall v2 v4 v5 x4
    go_enter Try.func18, Try.ntmps18
    go_wp2
    go_ret
    exact ⟨rfl, rfl⟩
  · rw [v2] at c1
    clear v2 v5 x2 x3 x4 x5 c3
    go_enter Try.func18, Try.ntmps18
    go_wp2
    go_ret
    exact ⟨rfl, rfl⟩

set_option maxHeartbeats 2000000 in
set_option maxRecDepth 1000000 in
theorem typeOf_any (r : Nat) (w : World) (oth : Int) (c5 : w.cell? ⟨r, 5, none⟩ = some (.int .i64 oth)) (hr : r < w.heap.size) (nsec bits : Int) (bo isI : Bool) (s : ByteArray) :
    Calls Try.prog 21 #[.agg #[.int .u8 4, .bool bo, .int .i32 nsec, .bool isI, .int .u64 bits, .string s, .pointer (some ⟨r, 0, none⟩)]] w fun e w' => e = .returned (.int .u8 (if oth < 0 then 16 else 0)) ∧ Below w.heap.size w w' := by
  by_cases h : oth < 0
  · go_enter Try.func21, Try.ntmps21
    go_wp2
    go_ret
    exact ⟨rfl, (Below.refl _ _).alloc (Nat.le_refl _) _⟩
  · go_enter Try.func21, Try.ntmps21
    go_wp2
    go_ret
    exact ⟨rfl, (Below.refl _ _).alloc (Nat.le_refl _) _⟩
end Go.Proofs.Qxb6603696a
