import Derived.Test.Qxb6603696aReadBack
namespace Go.Proofs.Qxb6603696a
open Go.RowKit

set_option maxHeartbeats 2000000 in
set_option maxRecDepth 1000000 in
theorem zzBytes5_any (a0 a1 : Int) (a : Option Addr) (len cap : Nat) (E : Nat → Elem8) (w : World) (h : IsElems w a len E) (hm : len ≤ maxLen) :
    Calls Try.prog 5 #[.int .i64 a0, .int .i64 a1, .slice a len cap] w fun e w' => IsB len E e ∧ w' = w := by
  unfold maxLen at hm
  by_cases hl : (len : Int) ≤ 1048576
  · go_enter Try.func5, Try.ntmps5
    go_wp2
    go_loop [7, 8] (fun n i => ∃ (j : Nat) (m : Int), j ≤ len ∧ i = .int .i64 j ∧ n = .int .i64 m ∧ 0 ≤ m ∧ m ≤ 1048576 ∧ Hid (Short E j)) (fun _ i => len - (intOf i).toNat)
    case atStart => exact ⟨0, len, by omega, rfl, rfl, by omega, by omega, fun i hi => by omega⟩
    case round =>
      obtain ⟨j, m, hj, rfl, rfl, hm0, hm1, HS⟩ := hrel
      by_cases hlt : (j : Int) < len
      · rcases h with h | ⟨b, off, rfl, hbw, hE⟩
        · omega
        · obtain ⟨-, -, -, -, -, h5, -, -, h8⟩ := hE j (by omega)
          unfold maxLen at h8
          have hj0 : (0 : Int) ≤ (j : Int) := by omega
          clear hE
          go_wp2
          · go_ret
            exact ⟨isF _ _, rfl⟩
          · go_ret
            exact ⟨isF _ _, rfl⟩
          · go_round
            case rel => exact ⟨j + 1, _, by omega, by go_num, rfl, by omega, by assumption, fun i hi => by (by_cases e : i = j; (subst e; omega); exact HS.out i (by omega))⟩
            case measure => simp [intOf]; omega
      · obtain rfl : j = len := by omega
        go_wp2
        go_ret
        exact ⟨⟨true, rfl, fun _ => HS.out⟩, rfl⟩
  · go_enter Try.func5, Try.ntmps5
    go_wp2
    go_ret
    exact ⟨isF _ _, rfl⟩

set_option maxHeartbeats 2000000 in
set_option maxRecDepth 1000000 in
theorem zzContent_any (b : Nat) (w : World) (L S : Int) (V : Nat → Value) (X : Nat → List Value) (h : Bld w b L S V X) :
    Calls Try.prog 9 #[.pointer (some ⟨b, 0, none⟩)] w fun e w' => e = .returned (.pointer (some ⟨w.heap.size, 0, none⟩)) ∧ ArrAt w' w.heap.size V (-1) 0 ∧ Below w.heap.size w w' := by
  have HH := Hid.mk h
  clear h
  go_enter Try.func9, Try.ntmps9
  go_wp2_with (go_at_call 17; refine (content_any b _ L S V X HH.out).mono ?_; rintro e w5 ⟨rfl, hA5, hBe5⟩)
  go_ret
  exact ⟨rfl, hA5, hBe5⟩

set_option maxHeartbeats 2000000 in
set_option maxRecDepth 1000000 in
theorem zzLen_any (r : Nat) (w : World) (V : Nat → Value) (X : Nat → List Value) (es : List El) (oth sz : Int) (ha : ArrAt w r V oth sz) (hr : Rep V X es) :
    Calls Try.prog 10 #[.pointer (some ⟨r, 0, none⟩)] w fun e w' => e = .returned (.int .i64 es.length) ∧ w' = w := by
  have HH := Hid.mk (And.intro ha hr)
  clear ha hr
  go_enter Try.func10, Try.ntmps10
  go_wp2_with (go_at_call 18; refine (len_any r _ V X es oth sz HH.out.1 HH.out.2).mono ?_; rintro e w6 ⟨rfl, rfl⟩)
  go_ret
  exact ⟨rfl, rfl⟩

theorem esOf_get (E : Nat → Elem8) (j q : Nat) (h : q < (esOf E j).length) : (esOf E j)[q]'h = (E q).el := by
  simp [esOf]

/-- The state of the adding loop. -/
def Adding3 (w : World) (b : Nat) (L S : Int) (E : Nat → Elem8) (j : Nat) (wr : World) : Prop :=
  ∃ V X, Bld wr b L S V X ∧ Rep V X (esOf E j) ∧ Below w.heap.size w wr ∧ w.heap.size ≤ b

set_option maxHeartbeats 4000000 in
set_option maxRecDepth 1000000 in
theorem law3 (a0 a1 : Int) (a : Option Addr) (len cap : Nat) (E : Nat → Elem8) (w : World) (h : IsElems w a len E) (hm : len ≤ maxLen) :
    Calls Try.prog 3 #[.int .i64 a0, .int .i64 a1, .slice a len cap] w fun e w' => e = .returned (.bool true) ∧ Below w.heap.size w w' := by
  have HI := Hid.mk h
  have HM := Hid.mk hm
  clear h hm
  go_enter Try.func3, Try.ntmps3
  go_wp2_with fail
  refine (zzBytes5_any a0 a1 a len cap E _ HI.out HM.out).mono ?_
  rintro e w' ⟨⟨B, rfl, hB⟩, rfl⟩
  cases B with
  | false =>
    clear hB
    go_wp2
    go_ret
    exact ⟨rfl, Below.refl _ _⟩
  | true =>
    have HS := Hid.mk (hB rfl)
    clear hB
    go_wp2_with fail
    refine (tooBig_any a len cap E _ HI.out HM.out HS).mono ?_
    rintro e w2 ⟨⟨B, rfl, hB⟩, rfl⟩
    cases B with
    | true =>
      clear hB
      go_wp2
      go_ret
      exact ⟨rfl, Below.refl _ _⟩
    | false =>
      obtain ⟨hl, hsz⟩ := hB rfl
      clear hB
      by_cases hb : 0 ≤ a0 ∧ a0 ≤ 65536 ∧ 0 ≤ a1 ∧ a1 ≤ 65536
      · obtain ⟨b0, b1, b2, b3⟩ := hb
        go_wp2_with (go_at_call 7; refine (zzNew_any _ a0 a1).mono ?_; rintro e w3 ⟨rfl, V, X, hB, hR, hBe⟩)
        obtain ⟨b, hbb⟩ : ∃ b, b = w2.heap.size := ⟨_, rfl⟩
        have HA : Hid (Adding3 w2 b a0 a1 E 0 w3) := ⟨V, X, by rw [hbb]; exact hB, hR, hBe, by omega⟩
        rw [← hbb]
        have HBB := Hid.mk hbb
        clear hB hR hBe hbb
        go_loopw [8] (fun i wr => ∃ j : Nat, j ≤ len ∧ i = .int .i64 j ∧ Hid (Adding3 w2 b a0 a1 E j wr)) (fun i _ => len - (intOf i).toNat)
        case atStart => exact ⟨0, by omega, rfl, HA⟩
        case round =>
          obtain ⟨j, hj, rfl, HK⟩ := hrel
          by_cases hlt : (j : Int) < len
          · obtain ⟨V1, X1, hB1, hR1, hBe1, hwb⟩ := HK.out
            rcases HI.out with h0 | ⟨ab, off, rfl, hbw, hE⟩
            · omega
            · obtain ⟨h0, h1, h2, h3, h4, h5, h6, h7, h8⟩ := (hE j (by omega)).below hBe1 hbw
              have hj0 : (0 : Int) ≤ (j : Int) := by omega
              have HZ := Hid.mk (And.intro hB1 (And.intro hR1 (And.intro hBe1 hwb)))
              clear hE hB1 hR1 hBe1 h8
              go_wp2_with (go_at_call 8; refine (zzAdd_any b _ a0 a1 V1 X1 (HZ.out.1.alloc _) b0 b1 b2 b3 (esOf E j) (by rw [esOf_len]; omega) HZ.out.2.1 (E j).k (E j).bo (E j).isI (E j).ha (E j).nsec (E j).bits (E j).ot (E j).s).mono ?_; rintro e w5 ⟨rfl, V2, X2, hB2, hS2, hR2⟩)
              go_roundw
              case rel => exact ⟨j + 1, by omega, by go_num, V2, X2, hB2, by rw [esOf_succ]; exact hR2, HZ.out.2.2.1.trans ((((Step.alloc _ _ _ _).trans hS2).below HZ.out.1).mono HZ.out.2.2.2), HZ.out.2.2.2⟩
              case measure => simp [intOf]; omega
          · obtain rfl : j = len := by omega
            obtain ⟨V1, X1, hB1, hR1, hBe1, hwb⟩ := HK.out
            have HZ := Hid.mk (And.intro hB1 (And.intro hR1 (And.intro hBe1 hwb)))
            clear hB1 hR1 hBe1 HK HA
            have hel := esOf_len E j
            go_wp2_with (first | (go_at_call 9; refine (zzContent_any b _ a0 a1 V1 X1 HZ.out.1).mono ?_; rintro e w5 ⟨rfl, hA5, hBe5⟩) | (go_at_call 10; refine (zzLen_any wr.heap.size _ V1 X1 (esOf E j) (-1) 0 hA5 HZ.out.2.1).mono ?_; rintro e w6 ⟨rfl, rfl⟩))
            obtain ⟨r, hr⟩ : ∃ r, r = wr.heap.size := ⟨_, rfl⟩
            rw [← hr]
            rw [← hr] at hA5
            have HA5 : Hid (ArrAt w6 r V1 (-1) 0 ∧ Bld w6 b a0 a1 V1 X1 ∧ Below w2.heap.size w2 w6) := ⟨hA5, (HZ.out.1.keep hBe5).1, HZ.out.2.2.1.trans (hBe5.mono HZ.out.2.2.1.size)⟩
            clear hA5 hBe5 hr
            go_loopw [11] (fun i wr => ∃ q : Nat, q ≤ j ∧ i = .int .i64 q ∧ Hid (ArrAt wr r V1 (-1) 0 ∧ Bld wr b a0 a1 V1 X1 ∧ Below w2.heap.size w2 wr)) (fun i _ => j - (intOf i).toNat)
            case atStart => exact ⟨0, by omega, rfl, HA5⟩
            case round =>
              obtain ⟨q, hq, rfl, HK⟩ := hrel
              by_cases hlt2 : (q : Int) < j
              · rcases HI.out with h0 | ⟨ab, off, rfl, hbw, hE⟩
                · omega
                · have hql : q < (esOf E j).length := by omega
                  have hat := zzAt_any r b q _ a0 a1 V1 X1 (esOf E j) (-1) 0 HK.out.1 HK.out.2.1 HZ.out.2.1 hql (by omega)
                  rw [esOf_get] at hat
                  have hrb := readBack_any (E q)
                  have hEq := hE q (by omega)
                  have hkk : (E q).el.k = (E q).k := rfl
                  rw [hkk] at hat
                  unfold ElAt at hEq
                  generalize (E q).k = k at hat hrb hEq
                  generalize rB (E q).el = B at hat hrb
                  generalize flagOf (E q).el = F at hat hrb
                  generalize rBits (E q).el = Y at hat hrb
                  generalize rS (E q).el = s at hat hrb
                  have HAT := Hid.mk hat
                  have HRB := Hid.mk hrb
                  have HEQ := Hid.mk hEq
                  clear hat hrb hEq hE hkk
                  have hq0 : (0 : Int) ≤ (q : Int) := by omega
                  go_wp2_with (go_at_call 11; refine HAT.out.mono ?_; rintro e w7 ⟨rfl, hb7⟩; have HB7 := Hid.mk hb7; clear hb7; have HBB7 := Hid.mk (HK.out.2.2.trans (HB7.out.mono HK.out.2.2.size)); obtain ⟨h0, h1, h2, h3, h4, h5, h6, h7, -⟩ := HEQ.out; rw [← HBB7.out.cell (p := ⟨ab, _, none⟩) hbw] at h0 h1 h2 h3 h4 h5 h6 h7)
                  go_wp2_with (go_at_call 12; refine (HRB.out w7).mono ?_; rintro e w8 ⟨rfl, hb8⟩)
                  go_roundw
                  case rel =>
                    have hB7 := HB7.out
                    have hK := HK.out
                    have a8 : Below wr.heap.size wr w8 := hB7.trans (hb8.mono hB7.size)
                    exact ⟨q + 1, by omega, by go_num, (a8.block r (Array.getElem?_eq_some_iff.1 hK.1).1).trans hK.1, (hK.2.1.keep a8).1, hK.2.2.trans (a8.mono hK.2.2.size)⟩
                  case measure => simp [intOf]; omega
              · obtain rfl : q = j := by omega
                go_wp2
                go_ret
                exact ⟨rfl, HK.out.2.2⟩
      · by_cases c0 : a0 < 0
        · go_wp2
          go_ret
          exact ⟨rfl, Below.refl _ _⟩
        · by_cases c1 : 65536 < a0
          · go_wp2
            go_ret
            exact ⟨rfl, Below.refl _ _⟩
          · by_cases c2 : a1 < 0
            · go_wp2
              go_ret
              exact ⟨rfl, Below.refl _ _⟩
            · have c3 : 65536 < a1 := by omega
              clear hb
              go_wp2
              go_ret
              exact ⟨rfl, Below.refl _ _⟩
end Go.Proofs.Qxb6603696a
