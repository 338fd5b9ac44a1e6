import Derived.Test.Qxb6602991aZZ
namespace Go.Proofs.Qxb6602991a
open Go.RowKit

set_option maxHeartbeats 4000000 in
set_option maxRecDepth 1000000 in
theorem law_long (a0 a1 a2 : Option Addr) (n0 n1 n2 c0 c1 c2 : Nat) (w : World) (h0 : n0 ≤ maxLen) (h1 : n1 ≤ maxLen) (h2 : n2 ≤ maxLen) (h : ¬ ((n0 : Int) ≤ 262144 ∧ (n1 : Int) ≤ 65536 ∧ (n2 : Int) ≤ 262144)) :
    Calls Try.prog 5 #[.slice a0 n0 c0, .slice a1 n1 c1, .slice a2 n2 c2] w fun e w' => e = .returned (.bool true) ∧ Below w.heap.size w w' := by
  have Z := hmk (zzb_some a0 a1 a2 n0 n1 n2 c0 c1 c2 w h0 h1 h2)
  unfold maxLen at h0 h1 h2
  have i0 : (n0 : Int) ≤ 9223372036854775807 := by omega
  have i1 : (n1 : Int) ≤ 9223372036854775807 := by omega
  have i2 : (n2 : Int) ≤ 9223372036854775807 := by omega
  clear h0 h1 h2
  by_cases k0 : (n0 : Int) ≤ 262144
  · by_cases k1 : (n1 : Int) ≤ 65536
    · have k2 : ¬ (n2 : Int) ≤ 262144 := fun k2 => h ⟨k0, k1, k2⟩
      clear h
      go_enter Try.func5, Try.ntmps5
      go_wp2_with fail
      refine Z.out.mono ?_
      rintro e w' ⟨b, rfl, rfl⟩
      cases b
      all_goals
        go_wp2
        go_ret
        exact ⟨rfl, Below.refl _ _⟩
    · clear h
      go_enter Try.func5, Try.ntmps5
      go_wp2_with fail
      refine Z.out.mono ?_
      rintro e w' ⟨b, rfl, rfl⟩
      cases b
      all_goals
        go_wp2
        go_ret
        exact ⟨rfl, Below.refl _ _⟩
  · clear h
    go_enter Try.func5, Try.ntmps5
    go_wp2_with fail
    refine Z.out.mono ?_
    rintro e w' ⟨b, rfl, rfl⟩
    cases b
    all_goals
      go_wp2
      go_ret
      exact ⟨rfl, Below.refl _ _⟩

set_option maxHeartbeats 4000000 in
set_option maxRecDepth 1000000 in
theorem law_main (a0 a1 a2 : Option Addr) (n0 n1 n2 c0 c1 c2 : Nat) (pre l tail : List Int) (w : World) (b0 : Bs w w.heap.size a0 pre) (b1 : Bs w w.heap.size a1 l) (b2 : Bs w w.heap.size a2 tail)
    (l0 : pre.length = n0) (l1 : l.length = n1) (l2 : tail.length = n2) (z0 : a0 = none → c0 = 0) (z1 : a1 = none → c1 = 0) (z2 : a2 = none → c2 = 0) (hby : Bytes l)
    (h0 : (n0 : Int) ≤ 262144) (h1 : (n1 : Int) ≤ 65536) (h2 : (n2 : Int) ≤ 262144) :
    Calls Try.prog 5 #[.slice a0 n0 c0, .slice a1 n1 c1, .slice a2 n2 c2] w fun e w' => e = .returned (.bool true) ∧ Below w.heap.size w w' := by
  have Z := hmk (zzb_any a0 a1 a2 n0 n1 n2 c0 c1 c2 w h0 h1 h2)
  have C0 := hmk (clone_any a0 n0 c0 w.heap.size pre w b0 l0 (by omega) z0 (Nat.le_refl _))
  have D := hmk (And.intro b1 (And.intro b2 (And.intro l0 (And.intro l1 (And.intro l2 (And.intro z1 (And.intro z2 hby)))))))
  clear b0 b1 b2 l0 l1 l2 z0 z1 z2 hby
  go_enter Try.func5, Try.ntmps5
  go_wp2_with fail
  refine Z.out.mono ?_
  rintro e w' ⟨rfl, rfl⟩
  go_wp2_with fail
  refine C0.out.mono ?_
  rintro e w1 ⟨a0', c0', rfl, hb1, bs0⟩
  clear C0 Z
  obtain ⟨b1, b2, l0, l1, l2, z1, z2, hby⟩ := D.out
  have C1 := hmk (clone_any a1 n1 c1 w'.heap.size l w1 (b1.below hb1) l1 (by omega) z1 hb1.size)
  have b2' := b2.below hb1
  have D1 := hmk (And.intro b2' (And.intro bs0 hb1))
  clear b1 b2 b2' l0 l1 l2 z1 z2 hby hb1 bs0
  go_wp2_with fail
  refine C1.out.mono ?_
  rintro e w2 ⟨a1', c1', rfl, hb2, bs1⟩
  clear C1
  obtain ⟨b1, b2, l0, l1, l2, z1, z2, hby⟩ := D.out
  obtain ⟨b2', bs0, hb1⟩ := D1.out
  have C2 := hmk (clone_any a2 n2 c2 w1.heap.size tail w2 ((b2'.mono hb1.size).below hb2) l2 (by omega) z2 hb2.size)
  have D2 := hmk (And.intro (bs0.below hb2) (And.intro bs1 (Below.trans hb1 (hb2.mono hb1.size))))
  clear b1 b2 b2' l0 l1 l2 z1 z2 hby hb1 bs0 bs1 D1
  have hb2' := hmk hb2
  clear hb2
  go_wp2_with fail
  refine C2.out.mono ?_
  rintro e w3 ⟨a2', c2', rfl, hb3, bs2⟩
  clear C2
  obtain ⟨b1, b2, l0, l1, l2, z1, z2, hby⟩ := D.out
  obtain ⟨bs0, bs1, hbw⟩ := D2.out
  have C3 := hmk (enc_any a1' n1 c1' l w3 ((bs1.below hb3).mono hb3.size) l1 (by omega) hby)
  have D3 := hmk (And.intro (((bs0.mono hb2'.out.size).below hb3).mono hb3.size) (And.intro bs2 (Below.trans hbw (hb3.mono (Nat.le_trans hbw.size (Nat.le_refl _))))))
  clear b1 b2 l0 l1 l2 z1 z2 hby hb3 bs0 bs1 bs2 hbw D2 hb2'
  go_wp2_with fail
  refine C3.out.mono ?_
  rintro e w4 ⟨g, cap, rfl, hown, hb4⟩
  clear C3
  obtain ⟨bs0, bs2, hbw⟩ := D3.out
  have e6 := enc_len l
  obtain ⟨m, hm⟩ : ∃ m, (encL l).length = m := ⟨_, rfl⟩
  rw [hm] at hown e6 ⊢
  have hm6 : (m : Int) ≤ 393216 := by have := D.out.2.2.2.1; omega
  have hm6' : m ≤ 393216 := by omega
  have hn0 : n0 ≤ 262144 := by omega
  have hn2 : n2 ≤ 262144 := by omega
  have hmake := make_cap (n0 + m + 2 + n2) (by omega) w4
  rw [show ((n0 + m + 2 + n2 : Nat) : Int) = (n0 : Int) + m + 2 + n2 by omega] at hmake
  have ow0 := ow_made w4 (n0 + m + 2 + n2) (by omega)
  have bel0 : Below w4.heap.size w4 (w4.alloc (.cells (madeCells #[.int .u8 0] (n0 + m + 2 + n2)) 5)) := (Below.refl _ _).alloc (Nat.le_refl _) _
  obtain ⟨w5, hw5⟩ : ∃ w5, w5 = w4.alloc (.cells (madeCells #[.int .u8 0] (n0 + m + 2 + n2)) 5) := ⟨_, rfl⟩
  rw [← hw5] at hmake ow0 bel0
  clear hw5
  have bs0' := (bs0.below hb4).mono hb4.size
  have bs2' := (bs2.below hb4).mono hb4.size
  have A0 := hmk (appendAll_any w4.heap.size 0 (n0 + m + 2 + n2) w4.heap.size [] a0' n0 c0' pre w5 (bs0'.below bel0) ow0 D.out.2.2.1 (by omega))
  simp only [Nat.zero_add, List.nil_append] at A0
  have D4 := hmk (And.intro hown.bs (And.intro bs2' (And.intro bel0 (And.intro hm (Below.trans hbw (hb4.mono hbw.size))))))
  clear bs0 bs2 hbw hown hb4 e6 ow0 bel0 bs0' bs2' hm D3
  go_wp2_with fail
  refine A0.out.mono ?_
  rintro e w6 ⟨g1, cap1, rfl, hown, hb6⟩
  clear A0
  have hbs := bs1
  obtain ⟨g2, cap2, w7, hrun, hown2, hb7⟩ := app_own [34] #[.int .u8 34] 1 rfl rfl hown (by omega) (by omega)
  have D5 := hmk (And.intro hown2 (Below.trans hb6 hb7))
  obtain ⟨be, bt, bel0, hm, hbw⟩ := D4.out
  have A1 := hmk (appendAll_any g2 (n0 + 1) cap2 w4.heap.size _ (some ⟨g, 0, none⟩) m cap (encL l) w7 ((be.below bel0).below (Below.trans hb6 hb7)) hown2 hm (by omega))
  clear hown hown2 hb6 hb7 be bt bel0 hm hbw
  go_wp2_with (at_builtin; refine wpList_append_run _ rfl (.tmp 47) (.tmp 48) 22 rfl _ _ _ _ hrun rfl rfl ?_)
  refine A1.out.mono ?_
  rintro e w8 ⟨g3, cap3, rfl, hown, hb8⟩
  clear A1 hrun
  obtain ⟨g4, cap4, w9, hrun, hown2, hb9⟩ := app_own [34] #[.int .u8 34] 1 rfl rfl hown (by omega) (by omega)
  obtain ⟨_, hb7⟩ := D5.out
  obtain ⟨be, bt, bel0, hm, hbw⟩ := D4.out
  have hB9 := Below.trans hb7 (Below.trans hb8 hb9)
  have A2 := hmk (appendAll_any g4 (n0 + 1 + m + 1) cap4 w4.heap.size _ a2' n2 c2' tail w9 ((bt.below bel0).below hB9) hown2 D.out.2.2.2.2.1 (by omega))
  have D6 := hmk hB9
  clear hown hown2 hb7 hb8 hb9 be bt bel0 hm hbw hB9 D5
  go_wp2_with (at_builtin; refine wpList_append_run _ rfl (.tmp 53) (.tmp 54) 22 rfl _ _ _ _ hrun rfl rfl ?_)
  refine A2.out.mono ?_
  rintro e w10 ⟨g5, cap5, rfl, hown, hb10⟩
  clear A2 hrun
  obtain ⟨be, bt, bel0, hm, hbw⟩ := D4.out
  have hB := Below.trans bel0 (Below.trans D6.out hb10)
  have hown' : Ow w10 w4.heap.size g5 (n0 + 1 + m + 1 + n2) cap5 (docL pre (encL l) tail) := by
    rw [show docL pre (encL l) tail = pre ++ [34] ++ encL l ++ [34] ++ tail by simp [docL]]
    exact hown
  have S := hmk (zzstr_any w4.heap.size g5 (n0 + 1 + m + 1 + n2) cap5 pre l tail w10 hown' (by omega) D.out.2.2.2.2.2.2.2)
  rw [D.out.2.2.1, hm] at S
  have D7 := hmk (And.intro ((be.below hB).mono hB.size) (And.intro (Below.trans hbw (hB.mono hbw.size)) hm))
  clear hown hown' hb10 be bt bel0 hm hbw hB D6 D4
  go_wp2_with fail
  refine S.out.mono ?_
  rintro e w11 ⟨c', rfl, hb11, bsr⟩
  clear S
  obtain ⟨be, hbw, hm⟩ := D7.out
  rw [show ((n0 + 1 + m + 1 : Nat) : Int) = (n0 : Int) + m + 2 by omega]
  have T := hmk (same_any (some ⟨g5, n0 + 1, none⟩) (some ⟨g, 0, none⟩) m c' cap w11.heap.size (encL l) w11 bsr ((be.below hb11).mono hb11.size) hm (by omega))
  have D8 := hmk (Below.trans hbw (hb11.mono hbw.size))
  clear be hbw hm hb11 bsr D7
  go_wp2_with fail
  refine T.out.mono ?_
  rintro e w12 ⟨rfl, hb12⟩
  have D9 := hmk (Below.trans D8.out (hb12.mono D8.out.size))
  clear hb12
  go_wp2
  go_ret
  exact ⟨rfl, D9.out⟩
end Go.Proofs.Qxb6602991a
