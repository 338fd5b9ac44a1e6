import Derived.Test.Qxb6603825aEsc
namespace Go.Proofs.Qxb6603825a
open Go.RowKit

set_option maxHeartbeats 2000000 in
set_option maxRecDepth 1000000 in
theorem escapeAt_any (s : ByteArray) (w : World) (hs : (s.size : Int) ≤ 2000000) :
    Calls Try.prog 19 #[.string s] w fun e w' => e = .returned (.tuple #[.int .u8 (escB s).1, .int .i64 (escB s).2]) ∧ w' = w := by
  by_cases h2 : (s.size : Int) < 2
  · have e : escB s = (0, 0) := by unfold escB; rw [if_pos (Or.inl (by omega))]
    rw [e]
    clear e
    go_enter Try.func19, Try.ntmps19
    go_wp2
    go_ret2
    exact ⟨rfl, rfl⟩
  · have p0 : 0 < s.size := by omega
    have p1 : 1 < s.size := by omega
    have b0 := bt_eq p0
    have b1 := bt_eq p1
    by_cases h92 : ((s[0].toNat : Int) != 92) = true
    · have e : escB s = (0, 0) := by unfold escB; rw [if_pos (Or.inr (by rw [← b0]; simpa using h92))]
      rw [e]
      clear e b0 b1
      go_enter Try.func19, Try.ntmps19
      go_wp2
      go_ret2
      exact ⟨rfl, rfl⟩
    · have h92' : ((s[0].toNat : Int) != 92) = false := by simpa using h92
      have c0 : ¬ (s.size < 2 ∨ bt s 0 ≠ 92) := by rw [← b0]; intro h; rcases h with h | h; (exact absurd h (by omega)); exact h (by simpa using h92)
      by_cases k34 : ((s[1].toNat : Int) == 34) = true
      · have e : escB s = (34, 2) := by unfold escB; have : bt s 1 = 34 := by rw [← b1]; simpa using k34
                                        rw [if_neg c0, if_pos (Or.inl this), this]
        rw [e]
        have k34' : (s[1].toNat : Int) = 34 := by simpa using k34
        clear e b0 b1 c0 h92
        go_enter Try.func19, Try.ntmps19
        go_wp2
        go_ret2
        exact ⟨rfl, rfl⟩
      · have k34' : ((s[1].toNat : Int) == 34) = false := by simpa using k34
        by_cases k92 : ((s[1].toNat : Int) == 92) = true
        · have e : escB s = (92, 2) := by unfold escB; have : bt s 1 = 92 := by rw [← b1]; simpa using k92
                                          rw [if_neg c0, if_pos (Or.inr this), this]
          rw [e]
          have k92' : (s[1].toNat : Int) = 92 := by simpa using k92
          clear e b0 b1 c0 h92 k34
          go_enter Try.func19, Try.ntmps19
          go_wp2
          go_ret2
          exact ⟨rfl, rfl⟩
        · have k92' : ((s[1].toNat : Int) == 92) = false := by simpa using k92
          have c1 : ¬ (bt s 1 = 34 ∨ bt s 1 = 92) := by rw [← b1]; intro h; rcases h with h | h; (exact k34 (by simpa using h)); exact k92 (by simpa using h)
          by_cases k120 : ((s[1].toNat : Int) == 120) = true
          · have c2 : bt s 1 = 120 := by rw [← b1]; simpa using k120
            by_cases h4 : (s.size : Int) < 4
            · have e : escB s = (0, 0) := by unfold escB; rw [if_neg c0, if_neg c1, if_pos c2, if_pos (by omega)]
              rw [e]
              clear e b0 b1 c0 c1 c2 h92 k34 k92
              go_enter Try.func19, Try.ntmps19
              go_wp2
              go_ret2
              exact ⟨rfl, rfl⟩
            · have p2 : 2 < s.size := by omega
              have p3 : 3 < s.size := by omega
              have b2 := bt_eq p2
              have b3 := bt_eq p3
              have e : escB s = if hx (bt s 2) && hx (bt s 3) then (hv (bt s 2) * 16 + hv (bt s 3), 4) else (0, 0) := by unfold escB; rw [if_neg c0, if_neg c1, if_pos c2, if_neg (by omega)]
              rw [e]
              rw [← b2, ← b3]
              have d2 := bt_bd s 2
              have d3 := bt_bd s 3
              rw [← b2] at d2
              rw [← b3] at d3
              have f2 := fromHex_any (s[2].toNat : Int)
              have f3 := fromHex_any (s[3].toNat : Int)
              have v2 := hv_bd (s[2].toNat : Int)
              have v3 := hv_bd (s[3].toNat : Int)
              obtain ⟨x2, hx2⟩ : ∃ x, x = hv (s[2].toNat : Int) := ⟨_, rfl⟩
              obtain ⟨x3, hx3⟩ : ∃ x, x = hv (s[3].toNat : Int) := ⟨_, rfl⟩
              obtain ⟨o2, ho2⟩ : ∃ x, x = hx (s[2].toNat : Int) := ⟨_, rfl⟩
              obtain ⟨o3, ho3⟩ : ∃ x, x = hx (s[3].toNat : Int) := ⟨_, rfl⟩
              rw [← hx2] at v2
              rw [← hx3] at v3
              rw [← hx2, ← ho2] at f2
              rw [← hx3, ← ho3] at f3
              rw [← hx2, ← hx3, ← ho2, ← ho3]
              have HO := hmk (or16 x2 x3 v2 v3)
              have F2 := hmk (fun w => f2 w d2.1 d2.2)
              have F3 := hmk (fun w => f3 w d3.1 d3.2)
              clear e b0 b1 b2 b3 c0 c1 c2 h92 k34 k92 f2 f3 hx2 hx3 ho2 ho3
              cases o2 <;> cases o3
              all_goals
                go_enter Try.func19, Try.ntmps19
                go_wp2_with fail
                refine (F2.out _).mono ?_
                rintro e w' ⟨rfl, rfl⟩
                go_wp2_with fail
                refine (F3.out _).mono ?_
                rintro e w' ⟨rfl, rfl⟩
                go_wp2
                go_ret2
              · exact ⟨rfl, rfl⟩
              · exact ⟨rfl, rfl⟩
              · exact ⟨rfl, rfl⟩
              · exact ⟨ret2 HO.out rfl, rfl⟩
          · have k120' : ((s[1].toNat : Int) == 120) = false := by simpa using k120
            have c2 : ¬ bt s 1 = 120 := by rw [← b1]; intro h; exact k120 (by simpa using h)
            have e : escB s = (0, 0) := by unfold escB; rw [if_neg c0, if_neg c1, if_neg c2]
            rw [e]
            clear e b0 b1 c0 c1 c2 h92 k34 k92
            go_enter Try.func19, Try.ntmps19
            go_wp2
            go_ret2
            exact ⟨rfl, rfl⟩
end Go.Proofs.Qxb6603825a
