import Derived.Test.Qxb6602721aSheetGrow
import Derived.Deep.DeepCutAuto
namespace Go.Proofs.Qxb6602721a.Sheet
open Go.RowKit

theorem info9 : (Try.prog.info? 9).map (fun i => (i.zero, i.size, i.bytes)) = some (some (.string ByteArray.empty), 1, 16) := by kernel_rfl
theorem info3 : (Try.prog.info? 3).map (fun i => (i.zero, i.size, i.bytes)) = some (some (.int .i64 0), 1, 8) := by kernel_rfl

/-- What stands in the sheet's memory: the two rows, the sheet's own block. -/
structure Made (w wr : World) (b g1 g2 c : Nat) (F : Nat → ByteArray) : Prop where
  names : wr.rowIs g1 9 c (fun j => .string (F j))
  widths : wr.rowIs g2 3 c (fun _ => .int .i64 0)
  sheet : wr.heap[b]? = some (.cells #[.pointer none, .slice none 0 0, .int .i64 0, .slice (some ⟨g1, 0, none⟩) c c, .slice (some ⟨g2, 0, none⟩) c c, .slice none 0 0] 39 (0, 0))
  below : Below w.heap.size w wr
  hb : w.heap.size ≤ b
  h1 : w.heap.size ≤ g1
  h2 : w.heap.size ≤ g2
  n12 : g1 ≠ g2
  nb1 : b ≠ g1
  nb2 : b ≠ g2

theorem Made.store {w wr : World} {b g1 g2 c : Nat} {F : Nat → ByteArray} (h : Made w wr b g1 g2 c F) (k : Nat) (v : ByteArray) :
    Made w (wr.setCell ⟨g1, k, none⟩ (.string v)) b g1 g2 c (fun j => if j = k then v else F j) where
  names := (h.names.set k (.string v)).congr (fun i hi => by by_cases e : i = k <;> simp [e])
  widths := h.widths.setOther (a := ⟨g1, k, none⟩) (Ne.symm h.n12) _
  sheet := (Below.heap_setCell _ _ _ _ h.nb1).trans h.sheet
  below := h.below.setCell (p := ⟨g1, k, none⟩) h.h1 _
  hb := h.hb
  h1 := h.h1
  h2 := h.h2
  n12 := h.n12
  nb1 := h.nb1
  nb2 := h.nb2

theorem Made.drew {w wr : World} {b g1 g2 c : Nat} {F : Nat → ByteArray} (h : Made w wr b g1 g2 c F) : Made w wr.drew b g1 g2 c F where
  names := h.names.drew
  widths := h.widths.drew
  sheet := h.sheet
  below := h.below.drew
  hb := h.hb
  h1 := h.h1
  h2 := h.h2
  n12 := h.n12
  nb1 := h.nb1
  nb2 := h.nb2

theorem Made.congr {w wr : World} {b g1 g2 c : Nat} {F G : Nat → ByteArray} (h : Made w wr b g1 g2 c F) (e : ∀ j, j < c → F j = G j) : Made w wr b g1 g2 c G where
  names := h.names.congr (fun i hi => by rw [e i hi])
  widths := h.widths
  sheet := h.sheet
  below := h.below
  hb := h.hb
  h1 := h.h1
  h2 := h.h2
  n12 := h.n12
  nb1 := h.nb1
  nb2 := h.nb2

/-- The column names that stand behind k rounds. -/
def F0 (k : Nat) (j : Nat) : ByteArray := if j < k then st (name j) else ByteArray.empty

theorem heap_new (w : World) (o : Obj) : (w.alloc o).heap[w.heap.size]? = some o := by
  show (w.heap.push o)[w.heap.size]? = _; simp

theorem size_new (w : World) (o : Obj) : (w.alloc o).heap.size = w.heap.size + 1 := by
  show (w.heap.push o).size = _; simp

/-- The three blocks, the names' row first. -/
theorem made_one (w : World) (c : Nat) : Made w ((((w.alloc (.cells (madeCells #[.string ByteArray.empty] c) 9)).alloc (.cells (madeCells #[.int .i64 0] c) 3)).alloc
    (.cells #[.pointer none, .slice none 0 0, .int .i64 0, .slice (some ⟨w.heap.size, 0, none⟩) c c, .slice (some ⟨w.heap.size + 1, 0, none⟩) c c, .slice none 0 0] 39)).drew) (w.heap.size + 1 + 1) w.heap.size (w.heap.size + 1) c (F0 0) where
  names := (((World.rowIs_made w (.string ByteArray.empty) c 9).alloc _).alloc _).congr (fun i _ => by simp [F0])
  widths := by
    have := ((World.rowIs_made (w.alloc (.cells (madeCells #[.string ByteArray.empty] c) 9)) (.int .i64 0) c 3).alloc (.cells #[.pointer none, .slice none 0 0, .int .i64 0, .slice (some ⟨w.heap.size, 0, none⟩) c c, .slice (some ⟨w.heap.size + 1, 0, none⟩) c c, .slice none 0 0] 39))
    rw [size_new] at this
    exact this
  sheet := by
    have := heap_new ((w.alloc (.cells (madeCells #[.string ByteArray.empty] c) 9)).alloc (.cells (madeCells #[.int .i64 0] c) 3)) (.cells #[.pointer none, .slice none 0 0, .int .i64 0, .slice (some ⟨w.heap.size, 0, none⟩) c c, .slice (some ⟨w.heap.size + 1, 0, none⟩) c c, .slice none 0 0] 39)
    rw [size_new, size_new] at this
    exact this
  below := ((((Below.refl _ _).alloc (Nat.le_refl _) _).alloc (by rw [size_new]; omega) _).alloc (by rw [size_new, size_new]; omega) _).drew
  hb := by omega
  h1 := by omega
  h2 := by omega
  n12 := by omega
  nb1 := by omega
  nb2 := by omega

/-- The three blocks, the widths' row first. -/
theorem made_two (w : World) (c : Nat) : Made w ((((w.alloc (.cells (madeCells #[.int .i64 0] c) 3)).alloc (.cells (madeCells #[.string ByteArray.empty] c) 9)).alloc
    (.cells #[.pointer none, .slice none 0 0, .int .i64 0, .slice (some ⟨w.heap.size + 1, 0, none⟩) c c, .slice (some ⟨w.heap.size, 0, none⟩) c c, .slice none 0 0] 39)).drew) (w.heap.size + 1 + 1) (w.heap.size + 1) w.heap.size c (F0 0) where
  names := by
    have := ((World.rowIs_made (w.alloc (.cells (madeCells #[.int .i64 0] c) 3)) (.string ByteArray.empty) c 9).alloc (.cells #[.pointer none, .slice none 0 0, .int .i64 0, .slice (some ⟨w.heap.size + 1, 0, none⟩) c c, .slice (some ⟨w.heap.size, 0, none⟩) c c, .slice none 0 0] 39))
    rw [size_new] at this
    exact World.rowIs.congr this (fun i _ => by simp [F0])
  widths := (((World.rowIs_made w (.int .i64 0) c 3).alloc _).alloc _)
  sheet := by
    have := heap_new ((w.alloc (.cells (madeCells #[.int .i64 0] c) 3)).alloc (.cells (madeCells #[.string ByteArray.empty] c) 9)) (.cells #[.pointer none, .slice none 0 0, .int .i64 0, .slice (some ⟨w.heap.size + 1, 0, none⟩) c c, .slice (some ⟨w.heap.size, 0, none⟩) c c, .slice none 0 0] 39)
    rw [size_new, size_new] at this
    exact this
  below := ((((Below.refl _ _).alloc (Nat.le_refl _) _).alloc (by rw [size_new]; omega) _).alloc (by rw [size_new, size_new]; omega) _).drew
  hb := by omega
  h1 := by omega
  h2 := by omega
  n12 := by omega
  nb1 := by omega
  nb2 := by omega

/-- Behind k rounds the row that is being written: column k holds acc. -/
def F1 (k : Nat) (acc : List UInt8) (j : Nat) : ByteArray := if j = k then st acc else F0 k j

theorem nm_le (f : Nat) : ∀ n, (nm f n).length ≤ f := by
  induction f with
  | zero => intro n; simp [nm]
  | succ f ih =>
    intro n
    cases n with
    | zero => rw [nm_zero]; simp
    | succ n => rw [nm_succ]; have := ih (n / 26); simp; omega

theorem acc_le {m k : Nat} {acc : List UInt8} (h : nmb m ++ acc = name k) (hk : k ≤ 65536) : acc.length ≤ 65537 := by
  have h1 : (nmb m ++ acc).length ≤ k + 1 := by rw [h]; exact nm_le (k + 1) (k + 1)
  simp at h1; omega

theorem acc_step {m k : Nat} {acc : List UInt8} (h : nmb m ++ acc = name k) (hm : 0 < m) : nmb ((m - 1) / 26) ++ (ch (m - 1) :: acc) = name k := by
  obtain ⟨n, rfl⟩ : ∃ n, m = n + 1 := ⟨m - 1, by omega⟩
  rw [nmb_succ] at h
  simpa using h

theorem F1_nil (k j : Nat) : F1 k [] j = F0 k j := by
  unfold F1
  by_cases e : j = k
  · rw [if_pos e]; unfold F0; rw [if_neg (by omega)]; rfl
  · rw [if_neg e]

theorem F1_done (k : Nat) (acc : List UInt8) (h : acc = name k) (j : Nat) : F1 k acc j = F0 (k + 1) j := by
  unfold F1 F0
  by_cases e : j = k
  · subst e; rw [if_pos rfl, if_pos (by omega), h]
  · rw [if_neg e]
    by_cases e2 : j < k
    · rw [if_pos e2, if_pos (by omega)]
    · rw [if_neg e2, if_neg (by omega)]

theorem F1_step (k : Nat) (acc acc' : List UInt8) (j : Nat) : (if j = k then st acc' else F1 k acc j) = F1 k acc' j := by
  unfold F1
  by_cases e : j = k <;> simp [e]

set_option maxHeartbeats 2000000 in
set_option maxRecDepth 1000000 in
theorem new_any (c N : Nat) (ln : Int) (w : World) (hc : c ≤ 65536) (hN : N ≤ 65536) (hln : wrap64 (ln * c) = N) :
    Calls Try.prog 14 #[.int .i64 c, .int .i64 ln] w fun e w' => ∃ (b g1 g2 : Nat) (p : Option Addr) (cap : Nat), e = .returned (.pointer (some ⟨b, 0, none⟩)) ∧ Below w.heap.size w w' ∧
      w'.heap[b]? = some (.cells #[.pointer (some ⟨b, 0, none⟩), .slice p 0 cap, .int .i64 0, .slice (some ⟨g1, 0, none⟩) c c, .slice (some ⟨g2, 0, none⟩) c c, .slice none 0 0] 39 (0, 0)) ∧
      w'.rowIs g1 9 c (fun j => .string (st (name j))) ∧ w'.rowIs g2 3 c (fun _ => .int .i64 0) := by
  have hm9 := run_make_row' (P := Try.prog) 22 9 (.string ByteArray.empty) 16 Try.underlying22 info9 rfl .i64 .i64 c (by omega) (by omega)
  have hm3 := run_make_row' (P := Try.prog) 23 3 (.int .i64 0) 8 Try.underlying23 info3 rfl .i64 .i64 c (by omega) (by omega)
  go_enter Try.func14, Try.ntmps14
  go_wp2
  go_cut [5] (fun s wr => ∃ b g1 g2 : Nat, s = .pointer (some ⟨b, 0, none⟩) ∧ Made w wr b g1 g2 c (F0 0))
  case first =>
    go_region
    all_goals (go_wp2; go_meet)
    case rel => exact ⟨_, _, _, rfl, made_one w c⟩
    case rel => exact ⟨_, _, _, rfl, made_two w c⟩
  case rest =>
    obtain ⟨b, g1, g2, rfl, hM⟩ := hcut
    have c3 : wc.cell? ⟨b, 3, none⟩ = some (.slice (some ⟨g1, 0, none⟩) c c) := by rw [Lib.cell_of_heap hM.sheet]; rfl
    go_wp2
    clear c3
    go_loopw [19] (fun i wr => ∃ k : Nat, k ≤ c ∧ i = .int .i64 k ∧ Hid (Made w wr b g1 g2 c (F0 k))) (fun i _ => c - (intOf i).toNat)
    case atStart => exact ⟨0, by omega, rfl, hM⟩
    case round =>
      obtain ⟨k, hk, rfl, HM⟩ := hrel
      by_cases hlt : (k : Int) < c
      · go_wp2
        obtain ⟨wo, rfl⟩ : ∃ wo : World, wo = wr := ⟨_, rfl⟩
        go_loopw [7] (fun n wr => ∃ (m : Nat) (acc : List UInt8), m ≤ 65536 ∧ n = .int .i64 m ∧ Hid (nmb m ++ acc = name k) ∧ Hid (Made w wr b g1 g2 c (F1 k acc))) (fun n _ => (intOf n).toNat)
        case atStart => exact ⟨k + 1, [], by omega, by go_num, by rw [List.append_nil]; rfl, HM.out.congr (fun j _ => (F1_nil k j).symm)⟩
        case round =>
          obtain ⟨m, acc, hm, rfl, HA, HI⟩ := hrel
          by_cases hm0 : (0 : Int) < m
          · have c3 : wr.cell? ⟨b, 3, none⟩ = some (.slice (some ⟨g1, 0, none⟩) c c) := by rw [Lib.cell_of_heap HI.out.sheet]; rfl
            have ck : wr.cell? ⟨g1, k, none⟩ = some (.string (st acc)) := by rw [HI.out.names.cell (by omega)]; simp [F1]
            have fk : wr.frozen? ⟨g1, k, none⟩ = false := HI.out.names.frozen k
            have hk0 : (0 : Int) ≤ (k : Int) := by omega
            have he : Utf8.encode (65 + ((m : Int) - 1) % 26) = st [ch (m - 1)] := by
              rw [show ((m : Int) - 1) % 26 = (((m - 1) % 26 : Nat) : Int) by omega]; exact encode_ch (m - 1)
            have hss : ∀ l, (st l).size = l.length := fun l => by simp [st, ByteArray.size]
            have hal : acc.length ≤ 65537 := acc_le HA.out (by omega)
            have HM' : Hid (Made w (wr.setCell ⟨g1, k, none⟩ (.string (st [ch (m - 1)] ++ st acc))).drew b g1 g2 c (F1 k (ch (m - 1) :: acc))) :=
              ((HI.out.store k (st [ch (m - 1)] ++ st acc)).congr (fun j _ => by rw [st_app]; exact F1_step k acc _ j)).drew
            have HA' : Hid (nmb ((m - 1) / 26) ++ (ch (m - 1) :: acc) = name k) := acc_step HA.out (by omega)
            go_wp2
            go_region
            go_wp2
            go_roundw
            case rel => exact ⟨(m - 1) / 26, ch (m - 1) :: acc, by omega, by go_num, HA', HM'⟩
            case measure => simp [intOf]; omega
          · obtain rfl : m = 0 := by omega
            have HM' : Hid (Made w wr b g1 g2 c (F0 (k + 1))) := HI.out.congr (fun j _ => F1_done k acc HA.out j)
            go_wp2
            go_roundw
            case rel => exact ⟨k + 1, by omega, by go_num, HM'⟩
            case measure => simp [intOf]; omega
      · obtain rfl : k = c := by omega
        have hN32 : ((N * 32 : Nat) : Int) = (N : Int) * 32 := by omega
        go_wp2_with (go_at_call 18; rw [← hN32]; refine (grow_any b (N * 32) _ _ _ _ _ HM.out.sheet (by omega)).mono ?_; rintro e w' ⟨rfl, ⟨p, cap, hp⟩, hg⟩)
        go_ret
        have hgB : Below w.heap.size w w' := Below.grown HM.out.below hg HM.out.below.size (fun j hj => by cases hj; exact HM.out.hb)
        exact ⟨b, g1, g2, p, cap, rfl, hgB, hp, (HM.out.names.of_block (hg.block g1 HM.out.names.lt (fun e => HM.out.nb1 (by cases e; rfl)))).congr (fun j hj => by simp [F0, hj]), HM.out.widths.of_block (hg.block g2 HM.out.widths.lt (fun e => HM.out.nb2 (by cases e; rfl)))⟩
end Go.Proofs.Qxb6602721a.Sheet
