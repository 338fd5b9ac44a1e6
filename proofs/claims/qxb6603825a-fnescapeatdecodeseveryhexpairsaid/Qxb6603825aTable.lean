import Derived.Test.Qxb6603825aModel
namespace Go.Proofs.Qxb6603825a
open Go.RowKit

theorem i64_and15 (v : Nat) : bits .and .i64 (v : Int) 15 = ((v % 16 : Nat) : Int) := by
  have h15 : (BitVec.ofInt 64 15).toNat = 2 ^ 4 - 1 := by decide
  have key : (BitVec.ofInt 64 (v : Int) &&& BitVec.ofInt 64 15).toNat = ((v : Int) % ((2 ^ 64 : Nat) : Int)).toNat % 2 ^ 4 := by
    rw [BitVec.toNat_and, BitVec.toNat_ofInt, h15, Nat.and_two_pow_sub_one_eq_mod]
  show IntKind.i64.wrap ((BitVec.ofInt 64 (v : Int) &&& BitVec.ofInt 64 15).toNat : Nat) = _
  rw [key, IntKind.wrap_i64]
  omega

theorem dg_both {c2 c3 : Int} {v : Nat} (k2 : dgB c2 (v / 16) = true) (k3 : dgB c3 (v % 16) = true) : (if hx c2 && hx c3 then (hv c2 * 16 + hv c3, (4 : Int)) else (0, 0)) = ((v : Int), 4) := by
  unfold dgB at k2 k3
  simp only [Bool.and_eq_true, decide_eq_true_eq] at k2 k3
  rw [if_pos (by rw [k2.1, k3.1]; rfl)]
  rw [k2.2, k3.2]
  congr 1
  omega

theorem dg_next {c2 c3 : Int} {v : Nat} (h : (hx c2 && hx c3) = true → (v : Int) ≤ hv c2 * 16 + hv c3) (k : ¬ (dgB c2 (v / 16) = true ∧ dgB c3 (v % 16) = true)) :
    (hx c2 && hx c3) = true → ((v + 1 : Nat) : Int) ≤ hv c2 * 16 + hv c3 := by
  intro hh
  have h1 := h hh
  have b2 := hv_bd c2
  have b3 := hv_bd c3
  rcases Int.lt_or_eq_of_le h1 with h2 | h2
  · omega
  · exfalso
    apply k
    simp only [Bool.and_eq_true] at hh
    unfold dgB
    simp only [Bool.and_eq_true, decide_eq_true_eq]
    exact ⟨⟨hh.1, by omega⟩, hh.2, by omega⟩

set_option maxHeartbeats 2000000 in
set_option maxRecDepth 1000000 in
theorem model_x (s : ByteArray) (w : World) (hs : (s.size : Int) ≤ 2000000) (h4 : (4 : Int) ≤ s.size) (h0 : (((s[0]'(by omega)).toNat : Int) == 92) = true) (h1 : (((s[1]'(by omega)).toNat : Int) == 120) = true) :
    Calls Try.prog 10 #[.string s] w fun e w' => e = .returned (.tuple #[.int .u8 (escB s).1, .int .i64 (escB s).2]) ∧ w' = w := by
  have p0 : 0 < s.size := by omega
  have p1 : 1 < s.size := by omega
  have p2 : 2 < s.size := by omega
  have p3 : 3 < s.size := by omega
  have q0 : (s[0].toNat : Int) = 92 := by simpa using h0
  have q1 : (s[1].toNat : Int) = 120 := by simpa using h1
  have b0 := bt_eq p0
  have b1 := bt_eq p1
  have b2 := bt_eq p2
  have b3 := bt_eq p3
  have n34 : ((s[1].toNat : Int) == 34) = false := by rw [q1]; rfl
  have n92 : ((s[1].toNat : Int) == 92) = false := by rw [q1]; rfl
  have e : escB s = if hx (bt s 2) && hx (bt s 3) then (hv (bt s 2) * 16 + hv (bt s 3), 4) else (0, 0) := by
    unfold escB
    rw [if_neg (by omega), if_neg (by omega), if_pos (by omega), if_neg (by omega)]
  rw [← b2, ← b3] at e
  obtain ⟨c2, hc2⟩ : ∃ c, c = (s[2].toNat : Int) := ⟨_, rfl⟩
  obtain ⟨c3, hc3⟩ : ∃ c, c = (s[3].toNat : Int) := ⟨_, rfl⟩
  rw [← hc2, ← hc3] at e
  have HE := hmk e
  have HC := hmk (And.intro hc2 hc3)
  have hc2' : (s[2].toNat : Int) = c2 := hc2.symm
  have hc3' : (s[3].toNat : Int) = c3 := hc3.symm
  clear e b0 b1 b2 b3 q0 q1 hc2 hc3
  go_enter Try.func10, Try.ntmps10
  go_wp2
  go_loop [4] (fun i => ∃ v : Nat, v ≤ 256 ∧ i = .int .i64 v ∧ Hid ((hx c2 && hx c3) = true → (v : Int) ≤ hv c2 * 16 + hv c3)) (fun i => 256 - (intOf i).toNat)
  case atStart => exact ⟨0, by omega, rfl, fun _ => by have := hv_bd c2; have := hv_bd c3; omega⟩
  case round =>
    obtain ⟨v, hv1, rfl, HV⟩ := hrel
    by_cases hlt : (v : Int) < 256
    · have hlt' : v < 256 := by omega
      have ed := hmk (show (v : Int) / 16 = ((v / 16 : Nat) : Int) by omega)
      have D2 := hmk (digitIs_any c2 (v / 16) · (by omega))
      have D3 := hmk (digitIs_any c3 (v % 16) · (by omega))
      go_wp2_with fail
      rw [ed.out]
      refine (D2.out _).mono ?_
      rintro e w' ⟨rfl, rfl⟩
      by_cases k2 : dgB c2 (v / 16) = true
      · by_cases k3 : dgB c3 (v % 16) = true
        · have hB := hmk (HE.out.trans (dg_both k2 k3))
          have hv0 : (0 : Int) ≤ (v : Int) := by omega
          go_wp2_with fail
          rw [i64_and15]
          refine (D3.out _).mono ?_
          rintro e w' ⟨rfl, rfl⟩
          go_wp2
          go_ret2
          rw [hB.out]
          exact ⟨rfl, rfl⟩
        · have k3' : dgB c3 (v % 16) = false := by simpa using k3
          have hN := hmk (dg_next HV.out (fun h => k3 h.2))
          go_wp2_with fail
          rw [i64_and15]
          refine (D3.out _).mono ?_
          rintro e w' ⟨rfl, rfl⟩
          go_wp2
          refine ⟨⟨v + 1, by omega, by simp, hN⟩, ?_⟩
          simp only [intOf]
          omega
      · have k2' : dgB c2 (v / 16) = false := by simpa using k2
        have hN := hmk (dg_next HV.out (fun h => k2 h.1))
        go_wp2_with fail
        refine ⟨⟨v + 1, by omega, by simp, hN⟩, ?_⟩
        simp only [intOf]
        omega
    · have hB : escB s = (0, 0) := by
        rw [HE.out, if_neg]
        intro hh
        have := HV.out hh
        have b2 := hv_bd c2
        have b3 := hv_bd c3
        omega
      have HB := hmk hB
      clear hB
      go_wp2
      go_ret2
      rw [HB.out]
      exact ⟨rfl, rfl⟩

set_option maxHeartbeats 2000000 in
set_option maxRecDepth 1000000 in
theorem model_any (s : ByteArray) (w : World) (hs : (s.size : Int) ≤ 2000000) :
    Calls Try.prog 10 #[.string s] w fun e w' => e = .returned (.tuple #[.int .u8 (escB s).1, .int .i64 (escB s).2]) ∧ w' = w := by
  by_cases h2 : (s.size : Int) < 2
  · have e : escB s = (0, 0) := by unfold escB; rw [if_pos (Or.inl (by omega))]
    rw [e]
    clear e
    go_enter Try.func10, Try.ntmps10
    go_wp2
    go_ret2
    exact ⟨rfl, rfl⟩
  · have p0 : 0 < s.size := by omega
    have p1 : 1 < s.size := by omega
    have b0 := bt_eq p0
    have b1 := bt_eq p1
    by_cases h92 : ((s[0].toNat : Int) == 92) = true
    · have c0 : ¬ (s.size < 2 ∨ bt s 0 ≠ 92) := by rw [← b0]; intro h; rcases h with h | h; (exact absurd h (by omega)); exact h (by simpa using h92)
      by_cases k34 : ((s[1].toNat : Int) == 34) = true
      · have e : escB s = (34, 2) := by unfold escB; have : bt s 1 = 34 := by rw [← b1]; simpa using k34
                                        rw [if_neg c0, if_pos (Or.inl this), this]
        rw [e]
        have k34' : (s[1].toNat : Int) = 34 := by simpa using k34
        have h92' : (s[0].toNat : Int) = 92 := by simpa using h92
        clear e b0 b1 c0 h92
        go_enter Try.func10, Try.ntmps10
        go_wp2
        go_ret2
        exact ⟨rfl, rfl⟩
      · have k34' : ((s[1].toNat : Int) == 34) = false := by simpa using k34
        by_cases k92 : ((s[1].toNat : Int) == 92) = true
        · have e : escB s = (92, 2) := by unfold escB; have : bt s 1 = 92 := by rw [← b1]; simpa using k92
                                          rw [if_neg c0, if_pos (Or.inr this), this]
          rw [e]
          have k92' : (s[1].toNat : Int) = 92 := by simpa using k92
          have h92' : (s[0].toNat : Int) = 92 := by simpa using h92
          clear e b0 b1 c0 h92 k34
          go_enter Try.func10, Try.ntmps10
          go_wp2
          go_ret2
          exact ⟨rfl, rfl⟩
        · have k92' : ((s[1].toNat : Int) == 92) = false := by simpa using k92
          have c1 : ¬ (bt s 1 = 34 ∨ bt s 1 = 92) := by rw [← b1]; intro h; rcases h with h | h; (exact k34 (by simpa using h)); exact k92 (by simpa using h)
          by_cases h4 : (s.size : Int) < 4
          · have e : escB s = (0, 0) := by
              unfold escB; rw [if_neg c0, if_neg c1]
              split
              · rw [if_pos (by omega)]
              · rfl
            rw [e]
            clear e b0 b1 c0 c1 k34 k92
            go_enter Try.func10, Try.ntmps10
            go_wp2
            go_ret2
            exact ⟨rfl, rfl⟩
          · by_cases k120 : ((s[1].toNat : Int) == 120) = true
            · exact model_x s w hs (by omega) h92 k120
            · have k120' : ((s[1].toNat : Int) == 120) = false := by simpa using k120
              have c2 : ¬ bt s 1 = 120 := by rw [← b1]; intro h; exact k120 (by simpa using h)
              have e : escB s = (0, 0) := by unfold escB; rw [if_neg c0, if_neg c1, if_neg c2]
              rw [e]
              clear e b0 b1 c0 c1 c2 k34 k92 k120
              go_enter Try.func10, Try.ntmps10
              go_wp2
              go_ret2
              exact ⟨rfl, rfl⟩
    · have h92' : ((s[0].toNat : Int) == 92) = false := by simpa using h92
      have e : escB s = (0, 0) := by unfold escB; rw [if_pos (Or.inr (by rw [← b0]; simpa using h92))]
      rw [e]
      clear e b0 b1 h92
      by_cases h4 : (s.size : Int) < 4
      all_goals
        go_enter Try.func10, Try.ntmps10
        go_wp2
        go_ret2
        exact ⟨rfl, rfl⟩

set_option maxRecDepth 100000 in
set_option maxHeartbeats 400000 in
theorem zzb8_any (s : ByteArray) (w : World) (hs : s.size ≤ maxLen) :
    Calls Try.prog 8 #[.string s] w fun e w' => e = .returned (.bool (decide ((s.size : Int) ≤ 1048576))) ∧ w' = w := by
  unfold maxLen at hs
  by_cases h : (s.size : Int) ≤ 1048576
  · go_enter Try.func8, Try.ntmps8
    go_wp2
    go_ret
    exact ⟨by simp [h], rfl⟩
  · go_enter Try.func8, Try.ntmps8
    go_wp2
    go_ret
    exact ⟨by simp [h], rfl⟩

set_option maxRecDepth 100000 in
set_option maxHeartbeats 400000 in
theorem zzesc_any (s : ByteArray) (w : World) (hs : (s.size : Int) ≤ 2000000) :
    Calls Try.prog 9 #[.string s] w fun e w' => e = .returned (.tuple #[.int .u8 (escB s).1, .int .i64 (escB s).2]) ∧ w' = w := by
  have E := hmk (escapeAt_any s · hs)
  obtain ⟨x, hx⟩ : ∃ x, x = (escB s).1 := ⟨_, rfl⟩
  obtain ⟨y, hy⟩ : ∃ x, x = (escB s).2 := ⟨_, rfl⟩
  rw [← hx, ← hy] at E ⊢
  clear hx hy
  go_enter Try.func9, Try.ntmps9
  go_wp2_with fail
  refine (E.out _).mono ?_
  rintro e w' ⟨rfl, rfl⟩
  go_wp2
  go_ret2
  exact ⟨rfl, rfl⟩
end Go.Proofs.Qxb6603825a
