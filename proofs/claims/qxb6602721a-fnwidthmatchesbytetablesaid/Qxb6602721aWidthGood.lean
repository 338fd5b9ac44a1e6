import Derived.Test.Qxb6602721aWidthSeq
namespace Go.Proofs.Qxb6602721a
open Go.RowKit

set_option maxRecDepth 100000 in
set_option maxHeartbeats 4000000 in
theorem seq_good (s : ByteArray) (i : Nat) (w : World) (hs : (s.size : Int) ≤ 1048576) (hi : i < s.size) (lo hh : Int) (n : Nat) (hc : Cls (s[i].toNat : Int) lo hh n)
    (HC : Hid (Cls (bt s i) lo hh n)) (HL : Hid (128 ≤ bt s i)) (hsz : (i : Int) + n ≤ s.size) (h1 : i + 1 < s.size) (hg : lo ≤ (s[i + 1].toNat : Int) ∧ (s[i + 1].toNat : Int) ≤ hh) :
    Calls Try.prog 17 #[.string s, .int .i64 i] w fun e w' => ∃ k : Nat, e = .returned (.int .i64 k) ∧ w' = w ∧ SeqOk s i k := by
  have h1' : (0 : Int) ≤ (i : Int) + 1 ∧ (i : Int) + 1 < s.size := by omega
  have HB : Hid (lo ≤ (bt s (i + 1) : Int) ∧ (bt s (i + 1) : Int) ≤ hh) := by rw [seq_bt h1] at hg; exact hg
  rcases cls_cases hc with ⟨rfl, rfl, rfl, c1, c2, c3, c4, g1, g2⟩ | ⟨rfl, rfl, rfl, c1, c2, c3, c4, g1, g2⟩ | ⟨rfl, rfl, rfl, c1, c2, c3, c4, g1, g2⟩ | ⟨rfl, rfl, rfl, c1, c2, c3, c4, g1, g2⟩ | ⟨rfl, rfl, rfl, c1, c2, c3, c4, g1, g2⟩ | ⟨rfl, rfl, rfl, c1, c2, c3, c4, g1, g2⟩ | ⟨rfl, rfl, rfl, c1, c2, c3, c4, g1, g2⟩ | ⟨rfl, rfl, rfl, c1, c2, c3, c4, g1, g2⟩
  · clear hc
    go_enter Try.func17, Try.ntmps17
    go_wp2
    go_loop [9] (fun k => ∃ j : Nat, 2 ≤ j ∧ j ≤ 4 ∧ k = .int .i64 j ∧ Hid (Conts s i j)) (fun k => 4 - (intOf k).toNat)
    case atStart => exact ⟨2, by omega, by omega, rfl, fun m a b => by omega⟩
    case round =>
      obtain ⟨j, hj2, hj4, rfl, HJ⟩ := hrel
      by_cases hlt : (j : Int) < 2
      · have hij : i + j < s.size := by omega
        have hij' : (0 : Int) ≤ (i : Int) + j ∧ (i : Int) + j < s.size := by omega
        by_cases hc1 : (s[i + j].toNat : Int) < 128
        · go_wp2
          go_ret
          exact ⟨0, rfl, rfl, conts_err HC.out HL.out hj2 (by omega) hij (Or.inl hc1)⟩
        · by_cases hc2 : 191 < (s[i + j].toNat : Int)
          · go_wp2
            go_ret
            exact ⟨0, rfl, rfl, conts_err HC.out HL.out hj2 (by omega) hij (Or.inr hc2)⟩
          · have HJ' : Hid (Conts s i (j + 1)) := conts_snoc HJ.out hij (by omega) (by omega)
            go_wp2
            go_round
            case rel => exact ⟨j + 1, by omega, by omega, by go_num, HJ'⟩
            case measure => simp [intOf]; omega
      · go_wp2
        go_ret
        exact ⟨2, rfl, rfl, conts_fine HC.out (fun m a b => HJ.out m a (by omega)) (by omega) HB.out⟩
  · clear hc
    go_enter Try.func17, Try.ntmps17
    go_wp2
    go_loop [9] (fun k => ∃ j : Nat, 2 ≤ j ∧ j ≤ 4 ∧ k = .int .i64 j ∧ Hid (Conts s i j)) (fun k => 4 - (intOf k).toNat)
    case atStart => exact ⟨2, by omega, by omega, rfl, fun m a b => by omega⟩
    case round =>
      obtain ⟨j, hj2, hj4, rfl, HJ⟩ := hrel
      by_cases hlt : (j : Int) < 3
      · have hij : i + j < s.size := by omega
        have hij' : (0 : Int) ≤ (i : Int) + j ∧ (i : Int) + j < s.size := by omega
        by_cases hc1 : (s[i + j].toNat : Int) < 128
        · go_wp2
          go_ret
          exact ⟨0, rfl, rfl, conts_err HC.out HL.out hj2 (by omega) hij (Or.inl hc1)⟩
        · by_cases hc2 : 191 < (s[i + j].toNat : Int)
          · go_wp2
            go_ret
            exact ⟨0, rfl, rfl, conts_err HC.out HL.out hj2 (by omega) hij (Or.inr hc2)⟩
          · have HJ' : Hid (Conts s i (j + 1)) := conts_snoc HJ.out hij (by omega) (by omega)
            go_wp2
            go_round
            case rel => exact ⟨j + 1, by omega, by omega, by go_num, HJ'⟩
            case measure => simp [intOf]; omega
      · go_wp2
        go_ret
        exact ⟨3, rfl, rfl, conts_fine HC.out (fun m a b => HJ.out m a (by omega)) (by omega) HB.out⟩
  · clear hc
    go_enter Try.func17, Try.ntmps17
    go_wp2
    go_loop [9] (fun k => ∃ j : Nat, 2 ≤ j ∧ j ≤ 4 ∧ k = .int .i64 j ∧ Hid (Conts s i j)) (fun k => 4 - (intOf k).toNat)
    case atStart => exact ⟨2, by omega, by omega, rfl, fun m a b => by omega⟩
    case round =>
      obtain ⟨j, hj2, hj4, rfl, HJ⟩ := hrel
      by_cases hlt : (j : Int) < 3
      · have hij : i + j < s.size := by omega
        have hij' : (0 : Int) ≤ (i : Int) + j ∧ (i : Int) + j < s.size := by omega
        by_cases hc1 : (s[i + j].toNat : Int) < 128
        · go_wp2
          go_ret
          exact ⟨0, rfl, rfl, conts_err HC.out HL.out hj2 (by omega) hij (Or.inl hc1)⟩
        · by_cases hc2 : 191 < (s[i + j].toNat : Int)
          · go_wp2
            go_ret
            exact ⟨0, rfl, rfl, conts_err HC.out HL.out hj2 (by omega) hij (Or.inr hc2)⟩
          · have HJ' : Hid (Conts s i (j + 1)) := conts_snoc HJ.out hij (by omega) (by omega)
            go_wp2
            go_round
            case rel => exact ⟨j + 1, by omega, by omega, by go_num, HJ'⟩
            case measure => simp [intOf]; omega
      · go_wp2
        go_ret
        exact ⟨3, rfl, rfl, conts_fine HC.out (fun m a b => HJ.out m a (by omega)) (by omega) HB.out⟩
  · clear hc
    go_enter Try.func17, Try.ntmps17
    go_wp2
    go_loop [9] (fun k => ∃ j : Nat, 2 ≤ j ∧ j ≤ 4 ∧ k = .int .i64 j ∧ Hid (Conts s i j)) (fun k => 4 - (intOf k).toNat)
    case atStart => exact ⟨2, by omega, by omega, rfl, fun m a b => by omega⟩
    case round =>
      obtain ⟨j, hj2, hj4, rfl, HJ⟩ := hrel
      by_cases hlt : (j : Int) < 3
      · have hij : i + j < s.size := by omega
        have hij' : (0 : Int) ≤ (i : Int) + j ∧ (i : Int) + j < s.size := by omega
        by_cases hc1 : (s[i + j].toNat : Int) < 128
        · go_wp2
          go_ret
          exact ⟨0, rfl, rfl, conts_err HC.out HL.out hj2 (by omega) hij (Or.inl hc1)⟩
        · by_cases hc2 : 191 < (s[i + j].toNat : Int)
          · go_wp2
            go_ret
            exact ⟨0, rfl, rfl, conts_err HC.out HL.out hj2 (by omega) hij (Or.inr hc2)⟩
          · have HJ' : Hid (Conts s i (j + 1)) := conts_snoc HJ.out hij (by omega) (by omega)
            go_wp2
            go_round
            case rel => exact ⟨j + 1, by omega, by omega, by go_num, HJ'⟩
            case measure => simp [intOf]; omega
      · go_wp2
        go_ret
        exact ⟨3, rfl, rfl, conts_fine HC.out (fun m a b => HJ.out m a (by omega)) (by omega) HB.out⟩
  · clear hc
    go_enter Try.func17, Try.ntmps17
    go_wp2
    go_loop [9] (fun k => ∃ j : Nat, 2 ≤ j ∧ j ≤ 4 ∧ k = .int .i64 j ∧ Hid (Conts s i j)) (fun k => 4 - (intOf k).toNat)
    case atStart => exact ⟨2, by omega, by omega, rfl, fun m a b => by omega⟩
    case round =>
      obtain ⟨j, hj2, hj4, rfl, HJ⟩ := hrel
      by_cases hlt : (j : Int) < 3
      · have hij : i + j < s.size := by omega
        have hij' : (0 : Int) ≤ (i : Int) + j ∧ (i : Int) + j < s.size := by omega
        by_cases hc1 : (s[i + j].toNat : Int) < 128
        · go_wp2
          go_ret
          exact ⟨0, rfl, rfl, conts_err HC.out HL.out hj2 (by omega) hij (Or.inl hc1)⟩
        · by_cases hc2 : 191 < (s[i + j].toNat : Int)
          · go_wp2
            go_ret
            exact ⟨0, rfl, rfl, conts_err HC.out HL.out hj2 (by omega) hij (Or.inr hc2)⟩
          · have HJ' : Hid (Conts s i (j + 1)) := conts_snoc HJ.out hij (by omega) (by omega)
            go_wp2
            go_round
            case rel => exact ⟨j + 1, by omega, by omega, by go_num, HJ'⟩
            case measure => simp [intOf]; omega
      · go_wp2
        go_ret
        exact ⟨3, rfl, rfl, conts_fine HC.out (fun m a b => HJ.out m a (by omega)) (by omega) HB.out⟩
  · clear hc
    go_enter Try.func17, Try.ntmps17
    go_wp2
    go_loop [9] (fun k => ∃ j : Nat, 2 ≤ j ∧ j ≤ 4 ∧ k = .int .i64 j ∧ Hid (Conts s i j)) (fun k => 4 - (intOf k).toNat)
    case atStart => exact ⟨2, by omega, by omega, rfl, fun m a b => by omega⟩
    case round =>
      obtain ⟨j, hj2, hj4, rfl, HJ⟩ := hrel
      by_cases hlt : (j : Int) < 4
      · have hij : i + j < s.size := by omega
        have hij' : (0 : Int) ≤ (i : Int) + j ∧ (i : Int) + j < s.size := by omega
        by_cases hc1 : (s[i + j].toNat : Int) < 128
        · go_wp2
          go_ret
          exact ⟨0, rfl, rfl, conts_err HC.out HL.out hj2 (by omega) hij (Or.inl hc1)⟩
        · by_cases hc2 : 191 < (s[i + j].toNat : Int)
          · go_wp2
            go_ret
            exact ⟨0, rfl, rfl, conts_err HC.out HL.out hj2 (by omega) hij (Or.inr hc2)⟩
          · have HJ' : Hid (Conts s i (j + 1)) := conts_snoc HJ.out hij (by omega) (by omega)
            go_wp2
            go_round
            case rel => exact ⟨j + 1, by omega, by omega, by go_num, HJ'⟩
            case measure => simp [intOf]; omega
      · go_wp2
        go_ret
        exact ⟨4, rfl, rfl, conts_fine HC.out (fun m a b => HJ.out m a (by omega)) (by omega) HB.out⟩
  · clear hc
    go_enter Try.func17, Try.ntmps17
    go_wp2
    go_loop [9] (fun k => ∃ j : Nat, 2 ≤ j ∧ j ≤ 4 ∧ k = .int .i64 j ∧ Hid (Conts s i j)) (fun k => 4 - (intOf k).toNat)
    case atStart => exact ⟨2, by omega, by omega, rfl, fun m a b => by omega⟩
    case round =>
      obtain ⟨j, hj2, hj4, rfl, HJ⟩ := hrel
      by_cases hlt : (j : Int) < 4
      · have hij : i + j < s.size := by omega
        have hij' : (0 : Int) ≤ (i : Int) + j ∧ (i : Int) + j < s.size := by omega
        by_cases hc1 : (s[i + j].toNat : Int) < 128
        · go_wp2
          go_ret
          exact ⟨0, rfl, rfl, conts_err HC.out HL.out hj2 (by omega) hij (Or.inl hc1)⟩
        · by_cases hc2 : 191 < (s[i + j].toNat : Int)
          · go_wp2
            go_ret
            exact ⟨0, rfl, rfl, conts_err HC.out HL.out hj2 (by omega) hij (Or.inr hc2)⟩
          · have HJ' : Hid (Conts s i (j + 1)) := conts_snoc HJ.out hij (by omega) (by omega)
            go_wp2
            go_round
            case rel => exact ⟨j + 1, by omega, by omega, by go_num, HJ'⟩
            case measure => simp [intOf]; omega
      · go_wp2
        go_ret
        exact ⟨4, rfl, rfl, conts_fine HC.out (fun m a b => HJ.out m a (by omega)) (by omega) HB.out⟩
  · clear hc
    go_enter Try.func17, Try.ntmps17
    go_wp2
    go_loop [9] (fun k => ∃ j : Nat, 2 ≤ j ∧ j ≤ 4 ∧ k = .int .i64 j ∧ Hid (Conts s i j)) (fun k => 4 - (intOf k).toNat)
    case atStart => exact ⟨2, by omega, by omega, rfl, fun m a b => by omega⟩
    case round =>
      obtain ⟨j, hj2, hj4, rfl, HJ⟩ := hrel
      by_cases hlt : (j : Int) < 4
      · have hij : i + j < s.size := by omega
        have hij' : (0 : Int) ≤ (i : Int) + j ∧ (i : Int) + j < s.size := by omega
        by_cases hc1 : (s[i + j].toNat : Int) < 128
        · go_wp2
          go_ret
          exact ⟨0, rfl, rfl, conts_err HC.out HL.out hj2 (by omega) hij (Or.inl hc1)⟩
        · by_cases hc2 : 191 < (s[i + j].toNat : Int)
          · go_wp2
            go_ret
            exact ⟨0, rfl, rfl, conts_err HC.out HL.out hj2 (by omega) hij (Or.inr hc2)⟩
          · have HJ' : Hid (Conts s i (j + 1)) := conts_snoc HJ.out hij (by omega) (by omega)
            go_wp2
            go_round
            case rel => exact ⟨j + 1, by omega, by omega, by go_num, HJ'⟩
            case measure => simp [intOf]; omega
      · go_wp2
        go_ret
        exact ⟨4, rfl, rfl, conts_fine HC.out (fun m a b => HJ.out m a (by omega)) (by omega) HB.out⟩
end Go.Proofs.Qxb6602721a
