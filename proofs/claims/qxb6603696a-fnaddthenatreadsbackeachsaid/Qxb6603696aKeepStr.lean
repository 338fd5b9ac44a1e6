import Derived.Test.Qxb6603696aKinds
namespace Go.Proofs.Qxb6603696a
open Go.RowKit

/-- The row of places behind j rounds. -/
def sfill (n j : Nat) : List Int := (List.range n).map (fun i => if i < j then (i : Int) else 0)
/-- 0, 1, .. n - 1. -/
def rng (n : Nat) : List Int := (List.range n).map (fun i : Nat => (i : Int))

theorem sfill_zero (n : Nat) : sfill n 0 = List.replicate n 0 := by
  unfold sfill
  refine List.eq_replicate_iff.2 ⟨by simp, fun x hx => ?_⟩
  obtain ⟨i, _, rfl⟩ := List.mem_map.1 hx
  rw [if_neg (by omega)]
theorem sfill_all (n : Nat) : sfill n n = rng n := by
  unfold sfill rng
  refine List.map_congr_left fun i hi => ?_
  rw [if_pos (by simpa using hi)]
theorem sfill_set (n j : Nat) : (sfill n j).set j (j : Int) = sfill n (j + 1) := by
  unfold sfill
  refine List.ext_getElem (by simp) fun i h1 h2 => ?_
  rw [List.getElem_set]
  by_cases e : j = i
  · subst e; simp
  · rw [if_neg e]
    simp only [List.getElem_map, List.getElem_range]
    by_cases e2 : i < j
    · rw [if_pos e2, if_pos (by omega)]
    · rw [if_neg e2, if_neg (by omega)]
theorem sfill_at (n j : Nat) (h : j < n) : (sfill n j)[j]? = some 0 := by
  unfold sfill
  simp [h]
theorem sfill_len (n j : Nat) : (sfill n j).length = n := by simp [sfill]
theorem rng_len (n : Nat) : (rng n).length = n := by simp [rng]

def PlacesB (w : World) (b : Nat) (L S : Int) (V : Nat → Value) (X : Nat → List Value) (n j : Nat) (g2 cap2 : Nat) (wr : World) : Prop :=
  ∃ V' X', Bld wr b L S V' X' ∧ Step w b V wr V' ∧ V' 4 = V 4 ∧ X' 4 = X 4 ∧ X' 2 = u64s (sfill n j) ∧ V' 2 = .slice (some ⟨g2, 0, none⟩) n cap2

theorem PlacesB.step {w : World} {b : Nat} {L S : Int} {V : Nat → Value} {X : Nat → List Value} {n j : Nat} {g2 cap2 : Nat} {wr : World} (h : PlacesB w b L S V X n j g2 cap2 wr) (hj : j < n) :
    wr.cell? ⟨b, 2, none⟩ = some (.slice (some ⟨g2, 0, none⟩) n cap2) ∧ wr.cell? ⟨g2, j, none⟩ = some (.int .u64 0) ∧ wr.frozen? ⟨g2, j, none⟩ = false ∧
    PlacesB w b L S V X n (j + 1) g2 cap2 (wr.setCell ⟨g2, j, none⟩ (.int .u64 j)) := by
  obtain ⟨V', X', hB, hS, r1, r2, r3, r6⟩ := h
  obtain ⟨_, hcell, hfz, _⟩ := hB.elem (by decide) (by decide) r6
  have hst := hB.stored (by decide) (by decide) r6 j (.int .u64 j)
  refine ⟨by rw [hB.cell2, r6], hcell j _ (by rw [r3]; simp [u64s, sfill_at n j hj]), hfz j, V', _, hst.1, hS.trans hst.2, r1, r2, ?_, r6⟩
  rw [put_same, r3, ← sfill_set n j]
  unfold u64s
  rw [List.map_set]

set_option maxHeartbeats 4000000 in
set_option maxRecDepth 1000000 in
theorem keepStr_any (b : Nat) (w : World) (L S : Int) (V : Nat → Value) (X : Nat → List Value) (h : Bld w b L S V X) (hL0 : 0 ≤ L) (hL1 : L ≤ 65536) (n : Nat) (hx4 : (X 4).length = n)
    (hn : n ≤ 20000) (v2 : V 2 = .slice none 0 0) :
    Calls Try.prog 24 #[.pointer (some ⟨b, 0, none⟩)] w fun e w' => e = .returned (.tuple #[]) ∧ KindsA w b L S V X (rng n) (List.replicate ((n + 63) / 64) 0) n 3 w' := by
  have HH := Hid.mk h
  have c2 := h.cell2
  rw [v2] at c2
  obtain ⟨a4, cap4, e4, -, -⟩ := form h 4 (by decide) (by decide)
  have c4 := h.cell4
  rw [e4, hx4] at c4
  obtain ⟨l0, hl0⟩ : ∃ l : Nat, L = l := ⟨L.toNat, by omega⟩
  have c0 := h.cell0
  rw [hl0] at c0
  have HL := Hid.mk hl0
  have hl1 : (l0 : Int) ≤ 65536 := by omega
  have f2 := h.frozen 2
  have hbw := h.lt
  have hnI : (n : Int) ≤ 20000 := by omega
  obtain ⟨C, hC⟩ : ∃ C : Nat, C = (if (l0 : Int) < (n : Int) + 1 then n + 1 else l0) := ⟨_, rfl⟩
  have HC := Hid.mk hC
  have hCn : n ≤ C := by split at hC <;> omega
  have hCm : C ≤ 100000 := by split at hC <;> omega
  have hCI : (if (l0 : Int) < (n : Int) + 1 then (n : Int) + 1 else (l0 : Int)) = (C : Int) := by rw [hC]; split <;> omega
  have HCI := Hid.mk hCI
  clear h hl0 v2 e4 hC hCI hx4
  have heq := eqNil40
  go_enter Try.func24, Try.ntmps24
  go_upto_region 3 with (fail)
  go_cut [] (fun wr => ∃ g2 cap2, PlacesB w b L S V X n 0 g2 cap2 wr)
  case first =>
    have m2 := make2 HH.out n C n C rfl rfl hCn (by omega)
    have hr2 := m2.1
    have HM := Hid.mk m2.2
    clear m2
    by_cases hlt : (l0 : Int) < (n : Int) + 1
    all_goals
      have hq := HCI.out
      first | rw [if_pos hlt] at hq | rw [if_neg hlt] at hq
      rw [← hq] at hr2
      clear hq
      go_wp2
      go_meet
      case rel => exact ⟨_, _, _, _, HM.out.1, HM.out.2, rfl, rfl, by rw [put_same, sfill_zero]; simp [u64s], rfl⟩
  case rest =>
    obtain ⟨g2, cap2, hP⟩ := hcut
    clear HH c2 c4 c0 f2 hbw
    have c2 : wc.cell? ⟨b, 2, none⟩ = some (.slice (some ⟨g2, 0, none⟩) n cap2) := by
      obtain ⟨V', X', hB, hS, r1, r2, r3, r6⟩ := hP
      rw [hB.cell2, r6]
    go_wp2
    clear c2
    go_loopw [38] (fun i wr => ∃ j : Nat, j ≤ n ∧ i = .int .i64 j ∧ Hid (PlacesB w b L S V X n j g2 cap2 wr)) (fun i _ => n - (intOf i).toNat)
    case atStart => exact ⟨0, by omega, rfl, hP⟩
    case round =>
      obtain ⟨j, hj, rfl, HK⟩ := hrel
      by_cases hlt : (j : Int) < n
      · obtain ⟨c5, cj, fj, hK'⟩ := HK.out.step (by omega)
        have HK' := Hid.mk hK'
        clear hK'
        have hj0 : (0 : Int) ≤ (j : Int) := by omega
        go_wp2
        go_roundw
        case rel => exact ⟨j + 1, by omega, by go_num, HK'⟩
        case measure => simp [intOf]; omega
      · obtain rfl : j = n := by omega
        obtain ⟨V1, X1, hB1, hS1, r1, r2, r3, r6⟩ := HK.out
        rw [sfill_all] at r3
        obtain ⟨a3, cap3, e3, -, -⟩ := form hB1 3 (by decide) (by decide)
        have c3 := hB1.cell3
        rw [e3] at c3
        have c0 := hB1.cell0
        rw [HL.out] at c0
        have f3 := hB1.frozen 3
        have hbw := hB1.lt
        have m3 := make3 hB1 ((j + 63) / 64) ((C + 63) / 64) (((j : Int) + 63) / 64) (((C : Int) + 63) / 64) (by omega) (by omega) (by omega) (by omega)
        have hr3 := m3.1
        have HM := Hid.mk (And.intro m3.2.1 (hS1.trans m3.2.2))
        have HV := Hid.mk (And.intro r1 (And.intro r2 (And.intro r3 r6)))
        clear m3 hB1 hS1 r1 r2 r3 r6 e3 HK hP
        go_upto_region 9 with (fail)
        go_cut [] (fun wr => ∃ V' X', Bld wr b L S V' X' ∧ Step w b V wr V' ∧ V' 4 = V 4 ∧ X' 4 = X 4 ∧ X' 2 = u64s (rng j) ∧ X' 3 = u64s (List.replicate ((j + 63) / 64) 0) ∧ V' 2 = .slice (some ⟨g2, 0, none⟩) j cap2)
        case first =>
          by_cases hlt2 : (l0 : Int) < (j : Int) + 1
          all_goals
            have hq := HCI.out
            first | rw [if_pos hlt2] at hq | rw [if_neg hlt2] at hq
            rw [← hq] at hr3
            clear hq
            go_wp2
            go_meet
            case rel =>
              obtain ⟨r1, r2, r3, r6⟩ := HV.out
              exact ⟨_, _, HM.out.1, HM.out.2, r1, r2, r3, by rw [put_same]; simp [u64s], r6⟩
        case rest =>
          obtain ⟨V2, X2, hB2, hS2, r1, r2, r3, r4, r6⟩ := hcut
          clear HM HV hr3 c3 c0 f3 hbw
          obtain ⟨a5, cap5, e5, -, -⟩ := form hB2 5 (by decide) (by decide)
          have c5 := hB2.cell5
          rw [e5] at c5
          have c0 := hB2.cell0
          rw [HL.out] at c0
          have f5 := hB2.frozen 5
          have hbw := hB2.lt
          have m5 := make5 hB2 j C j C rfl rfl hCn (by omega)
          have hr5 := m5.1
          have HM := Hid.mk (And.intro m5.2.1 (hS2.trans m5.2.2))
          have HV := Hid.mk (And.intro r1 (And.intro r2 (And.intro r3 (And.intro r4 r6))))
          clear m5 hB2 hS2 r1 r2 r3 r4 r6 e5
          go_upto_region 10 with (fail)
          go_cut [] (fun wr => ∃ g cap, KindsB w b L S V X (rng j) (List.replicate ((j + 63) / 64) 0) j 0 3 g cap g2 cap2 wr)
          case first =>
            by_cases hlt2 : (l0 : Int) < (j : Int) + 1
            all_goals
              have hq := HCI.out
              first | rw [if_pos hlt2] at hq | rw [if_neg hlt2] at hq
              rw [← hq] at hr5
              clear hq
              go_wp2
              go_meet
              case rel =>
                obtain ⟨r1, r2, r3, r4, r6⟩ := HV.out
                exact ⟨_, _, _, _, HM.out.1, HM.out.2, r1, r2, r3, r4, by rw [put_same, kfill_zero]; simp [u8s], rfl, by rw [rng_len]; exact r6⟩
          case rest =>
            obtain ⟨g, cap, hK⟩ := hcut
            clear HM HV hr5 c5 c0 f5 hbw
            have c5 : wc.cell? ⟨b, 5, none⟩ = some (.slice (some ⟨g, 0, none⟩) j cap) := by
              obtain ⟨V', X', hB, hS, r1, r2, r3, r4, r5, r6, r7⟩ := hK
              rw [hB.cell5, r6]
            go_wp2
            clear c5
            go_loopw [83] (fun i wr => ∃ q : Nat, q ≤ j ∧ i = .int .i64 q ∧ Hid (KindsB w b L S V X (rng j) (List.replicate ((j + 63) / 64) 0) j q 3 g cap g2 cap2 wr)) (fun i _ => j - (intOf i).toNat)
            case atStart => exact ⟨0, by omega, rfl, hK⟩
            case round =>
              obtain ⟨q, hq, rfl, HK⟩ := hrel
              by_cases hlt : (q : Int) < j
              · obtain ⟨c5, cj, fj, hK'⟩ := HK.out.step (by omega)
                have HK' := Hid.mk hK'
                clear hK'
                have hj0 : (0 : Int) ≤ (q : Int) := by omega
                go_wp2
                go_roundw
                case rel => exact ⟨q + 1, by omega, by go_num, HK'⟩
                case measure => simp [intOf]; omega
              · obtain rfl : q = j := by omega
                go_wp2
                go_end0
                exact ⟨rfl, HK.out.done⟩
end Go.Proofs.Qxb6603696a
