import Derived.Test.Qxb6603696aKeep
namespace Go.Proofs.Qxb6603696a
open Go.RowKit

def u8s (l : List Int) : List Value := l.map (Value.int .u8)

/-- What 'keepKinds' leaves: the kinds are given, the slots and bits stand. -/
def KindsA (w : World) (b : Nat) (L S : Int) (V : Nat → Value) (X : Nat → List Value) (sl il : List Int) (n : Nat) (k : Int) (wr : World) : Prop :=
  ∃ V' X' g cap g2 cap2, Bld wr b L S V' X' ∧ Step w b V wr V' ∧ V' 4 = V 4 ∧ X' 4 = X 4 ∧ X' 2 = u64s sl ∧ X' 3 = u64s il ∧ X' 5 = u8s (List.replicate n k) ∧
    V' 5 = .slice (some ⟨g, 0, none⟩) n cap ∧ V' 2 = .slice (some ⟨g2, 0, none⟩) sl.length cap2

/-- The row of kinds behind j rounds. -/
def kfill (n j : Nat) (k : Int) : List Int := List.replicate j k ++ List.replicate (n - j) 0

theorem kfill_zero (n : Nat) (k : Int) : kfill n 0 k = List.replicate n 0 := by simp [kfill]
theorem kfill_all (n : Nat) (k : Int) : kfill n n k = List.replicate n k := by simp [kfill]
theorem kfill_set (n j : Nat) (k : Int) (h : j < n) : (kfill n j k).set j k = kfill n (j + 1) k := by
  unfold kfill
  rw [List.set_append_right _ _ (by simp)]
  obtain ⟨m, hm⟩ : ∃ m, n - j = m + 1 := ⟨n - j - 1, by omega⟩
  rw [hm, show n - (j + 1) = m by omega]
  rw [List.length_replicate, Nat.sub_self, List.replicate_succ, List.set_cons_zero, List.replicate_succ' (n := j), List.append_assoc]
  rfl
theorem kfill_len (n j : Nat) (k : Int) (h : j ≤ n) : (kfill n j k).length = n := by simp [kfill]; omega
theorem kfill_at (n j : Nat) (k : Int) (h : j < n) : (kfill n j k)[j]? = some 0 := by
  unfold kfill
  rw [List.getElem?_append_right (by simp)]
  simp [List.getElem?_replicate]; omega

/-- The loop that fills the kinds, from behind its making. -/
def KindsB (w : World) (b : Nat) (L S : Int) (V : Nat → Value) (X : Nat → List Value) (sl il : List Int) (n j : Nat) (k : Int) (g cap g2 cap2 : Nat) (wr : World) : Prop :=
  ∃ V' X', Bld wr b L S V' X' ∧ Step w b V wr V' ∧ V' 4 = V 4 ∧ X' 4 = X 4 ∧ X' 2 = u64s sl ∧ X' 3 = u64s il ∧ X' 5 = u8s (kfill n j k) ∧
    V' 5 = .slice (some ⟨g, 0, none⟩) n cap ∧ V' 2 = .slice (some ⟨g2, 0, none⟩) sl.length cap2

theorem KindsB.done {w : World} {b : Nat} {L S : Int} {V : Nat → Value} {X : Nat → List Value} {sl il : List Int} {n : Nat} {k : Int} {g cap g2 cap2 : Nat} {wr : World} (h : KindsB w b L S V X sl il n n k g cap g2 cap2 wr) : KindsA w b L S V X sl il n k wr := by
  obtain ⟨V', X', hB, hS, r1, r2, r3, r4, r5, r6, r7⟩ := h
  exact ⟨V', X', g, cap, g2, cap2, hB, hS, r1, r2, r3, r4, by rw [r5, kfill_all], r6, r7⟩

theorem KindsB.step {w : World} {b : Nat} {L S : Int} {V : Nat → Value} {X : Nat → List Value} {sl il : List Int} {n j : Nat} {k : Int} {g cap g2 cap2 : Nat} {wr : World} (h : KindsB w b L S V X sl il n j k g cap g2 cap2 wr) (hj : j < n) :
    wr.cell? ⟨b, 5, none⟩ = some (.slice (some ⟨g, 0, none⟩) n cap) ∧ wr.cell? ⟨g, j, none⟩ = some (.int .u8 0) ∧ wr.frozen? ⟨g, j, none⟩ = false ∧
    KindsB w b L S V X sl il n (j + 1) k g cap g2 cap2 (wr.setCell ⟨g, j, none⟩ (.int .u8 k)) := by
  obtain ⟨V', X', hB, hS, r1, r2, r3, r4, r5, r6, r7⟩ := h
  obtain ⟨_, hcell, hfz, _⟩ := hB.elem (by decide) (by decide) r6
  have hst := hB.stored (by decide) (by decide) r6 j (.int .u8 k)
  refine ⟨by rw [hB.cell5, r6], hcell j _ (by rw [r5]; simp [u8s, kfill_at n j k hj]), hfz j, V', _, hst.1, hS.trans hst.2, r1, r2, r3, r4, ?_, r6, r7⟩
  rw [put_same, r5, ← kfill_set n j k hj]
  unfold u8s
  rw [List.map_set]

set_option maxHeartbeats 2000000 in
set_option maxRecDepth 1000000 in
theorem keepNum_any (b : Nat) (w : World) (L S : Int) (V : Nat → Value) (X : Nat → List Value) (h : Bld w b L S V X) (hL0 : 0 ≤ L) (hL1 : L ≤ 65536) (sl il : List Int) (hs : X 2 = u64s sl) (hi : X 3 = u64s il)
    (hn : sl.length ≤ 20000) (g2 cap2 : Nat) (v2 : V 2 = .slice (some ⟨g2, 0, none⟩) sl.length cap2) :
    Calls Try.prog 24 #[.pointer (some ⟨b, 0, none⟩)] w fun e w' => e = .returned (.tuple #[]) ∧ KindsA w b L S V X sl il sl.length 2 w' := by
  have HH := Hid.mk h
  have c2 := h.cell2
  rw [v2] at c2
  obtain ⟨a5, cap5, e5, -, -⟩ := form h 5 (by decide) (by decide)
  have c5 := h.cell5
  rw [e5] at c5
  obtain ⟨l0, hl0⟩ : ∃ l : Nat, L = l := ⟨L.toNat, by omega⟩
  have c0 := h.cell0
  rw [hl0] at c0
  have hl1 : (l0 : Int) ≤ 65536 := by omega
  have f5 := h.frozen 5
  have hbw := h.lt
  have HE := Hid.mk (And.intro hs (And.intro hi v2))
  clear h hl0 hs hi v2 e5
  have heq := eqNil40
  go_enter Try.func24, Try.ntmps24
  go_upto_region 10 with (fail)
  go_cut [] (fun wr => ∃ g cap, KindsB w b L S V X sl il sl.length 0 2 g cap g2 cap2 wr)
  case first =>
    obtain ⟨C, hC⟩ : ∃ C : Nat, C = (if (l0 : Int) < (sl.length : Int) + 1 then sl.length + 1 else l0) := ⟨_, rfl⟩
    have m5 := make5 HH.out sl.length C sl.length C rfl rfl (by split at hC <;> omega) (by split at hC <;> omega)
    have hr5 := m5.1
    have HM := Hid.mk m5.2
    clear m5
    have HC := Hid.mk hC
    by_cases hlt : (l0 : Int) < (sl.length : Int) + 1
    · have hC1 : (C : Int) = (sl.length : Int) + 1 := by rw [if_pos hlt] at hC; omega
      rw [hC1] at hr5
      clear hC hC1
      go_wp2
      go_meet
      case rel => exact ⟨_, _, _, _, HM.out.1, HM.out.2, rfl, rfl, HE.out.1, HE.out.2.1, by rw [put_same, kfill_zero]; simp [u8s], rfl, HE.out.2.2⟩
    · have hC1 : C = l0 := by rw [if_neg hlt] at hC; exact hC
      subst hC1
      clear hC
      go_wp2
      go_meet
      case rel => exact ⟨_, _, _, _, HM.out.1, HM.out.2, rfl, rfl, HE.out.1, HE.out.2.1, by rw [put_same, kfill_zero]; simp [u8s], rfl, HE.out.2.2⟩
  case rest =>
    obtain ⟨g, cap, hK⟩ := hcut
    clear HH HE c2 c5 c0 f5 hbw
    have c5 : wc.cell? ⟨b, 5, none⟩ = some (.slice (some ⟨g, 0, none⟩) sl.length cap) := by
      obtain ⟨V', X', hB, hS, r1, r2, r3, r4, r5, r6, r7⟩ := hK
      rw [hB.cell5, r6]
    go_wp2
    clear c5
    go_loopw [83] (fun i wr => ∃ j : Nat, j ≤ sl.length ∧ i = .int .i64 j ∧ Hid (KindsB w b L S V X sl il sl.length j 2 g cap g2 cap2 wr)) (fun i _ => sl.length - (intOf i).toNat)
    case atStart => exact ⟨0, by omega, rfl, hK⟩
    case round =>
      obtain ⟨j, hj, rfl, HK⟩ := hrel
      by_cases hlt : (j : Int) < sl.length
      · obtain ⟨c5, cj, fj, hK'⟩ := HK.out.step (by omega)
        have HK' := Hid.mk hK'
        clear hK'
        have hj0 : (0 : Int) ≤ (j : Int) := by omega
        go_wp2
        go_roundw
        case rel => exact ⟨j + 1, by omega, by go_num, HK'⟩
        case measure => simp [intOf]; omega
      · obtain rfl : j = sl.length := by omega
        go_wp2
        go_end0
        exact ⟨rfl, HK.out.done⟩
end Go.Proofs.Qxb6603696a
