import Derived.Test.Qxb6603696aElems
namespace Go.Proofs.Qxb6603696a
open Go.RowKit

/-- The bytes of all strings among the values. -/
def bts (es : List El) : Nat := bytesOf (strsOf es) (strsOf es).length

theorem bts_snoc (es : List El) (e : El) : bts (es ++ [e]) = bts es + if e.k = 3 then e.s.size else 0 := by
  unfold bts bytesOf strsOf
  simp only [List.take_length, List.filter_append, List.map_append, List.sum_append]
  by_cases h : e.k = 3
  · simp [h, isStr]
  · simp [h, isStr]
theorem sizeOf_eq (es : List El) : sizeOf es = es.length + bts es := rfl

theorem other_snoc_from (es : List El) (e : El) : ∀ c, otherFrom (es ++ [e]) c = if 0 ≤ otherFrom es c then otherFrom es c else if e.k ≠ 2 ∧ e.k ≠ 3 then ((c + es.length : Nat) : Int) else -1 := by
  induction es with
  | nil => intro c; simp [otherFrom]
  | cons x es ih =>
    intro c
    rw [List.cons_append, otherFrom, otherFrom]
    by_cases hx : x.k ≠ 2 ∧ x.k ≠ 3
    · rw [if_pos hx, if_pos hx, if_pos (by omega)]
    · rw [if_neg hx, if_neg hx, ih (c + 1)]
      rw [show c + 1 + es.length = c + (x :: es).length by simp; omega]
theorem other_snoc (es : List El) (e : El) : otherOf (es ++ [e]) = if 0 ≤ otherOf es then otherOf es else if e.k ≠ 2 ∧ e.k ≠ 3 then (es.length : Int) else -1 := by
  unfold otherOf; rw [other_snoc_from]; simp
theorem other_bd (es : List El) : ∀ c, -1 ≤ otherFrom es c ∧ otherFrom es c < c + es.length := by
  induction es with
  | nil => intro c; simp [otherFrom]; omega
  | cons x es ih =>
    intro c
    rw [otherFrom]
    split
    · simp; omega
    · have := ih (c + 1); simp; omega

theorem bts_le (E : Nat → Elem8) : ∀ j, bts (esOf E j) ≤ szs E j := by
  intro j
  induction j with
  | zero => exact Nat.le_refl _
  | succ j ih =>
    rw [esOf_succ, bts_snoc]
    show _ ≤ szs E j + (E j).s.size
    have : (E j).el.s = (E j).s := rfl
    rw [this]
    split <;> omega
theorem szs_mono (E : Nat → Elem8) (n : Nat) : ∀ j, j ≤ n → szs E j ≤ szs E n := by
  induction n with
  | zero => intro j h; obtain rfl : j = 0 := by omega
            exact Nat.le_refl _
  | succ n ih =>
    intro j h
    by_cases e : j = n + 1
    · subst e; exact Nat.le_refl _
    · exact Nat.le_trans (ih j (by omega)) (Nat.le_add_right _ _)

theorem int_eq {k : IntKind} {a b : Int} (h : a = b) : Value.int k a = Value.int k b := by rw [h]
theorem other_succ (E : Nat → Elem8) (q : Nat) : otherOf (esOf E (q + 1)) = if 0 ≤ otherOf (esOf E q) then otherOf (esOf E q) else if (E q).k ≠ 2 ∧ (E q).k ≠ 3 then (q : Int) else -1 := by
  rw [esOf_succ, other_snoc, esOf_len]; rfl
theorem other_ge (E : Nat → Elem8) (q : Nat) : -1 ≤ otherOf (esOf E q) ∧ otherOf (esOf E q) < q := by
  have := other_bd (esOf E q) 0; rw [esOf_len] at this; unfold otherOf; omega
theorem bts_succ (E : Nat → Elem8) (q : Nat) : bts (esOf E (q + 1)) = bts (esOf E q) + if (E q).k = 3 then (E q).s.size else 0 := by
  rw [esOf_succ, bts_snoc]; rfl

/-- The state of the adding loop. -/
def Adding (w : World) (b : Nat) (L S : Int) (E : Nat → Elem8) (j : Nat) (wr : World) : Prop :=
  ∃ V X, Bld wr b L S V X ∧ Rep V X (esOf E j) ∧ Below w.heap.size w wr ∧ w.heap.size ≤ b

set_option maxHeartbeats 4000000 in
set_option maxRecDepth 1000000 in
theorem law4 (a0 a1 : Int) (a : Option Addr) (len cap : Nat) (E : Nat → Elem8) (w : World) (h : IsElems w a len E) (hm : len ≤ maxLen) :
    Calls Try.prog 4 #[.int .i64 a0, .int .i64 a1, .slice a len cap] w fun e w' => e = .returned (.bool true) ∧ Below w.heap.size w w' := by
  have HI := Hid.mk h
  have HM := Hid.mk hm
  clear h hm
  go_enter Try.func4, Try.ntmps4
  go_wp2_with fail
  refine (zzBytes_any a0 a1 a len cap E _ HI.out HM.out).mono ?_
  rintro e w' ⟨⟨B, rfl, hB⟩, rfl⟩
  cases B with
  | false =>
    clear hB
    go_wp2
    go_ret
    exact ⟨rfl, Below.refl _ _⟩
  | true =>
    have HS := Hid.mk (hB rfl)
    clear hB
    go_wp2_with fail
    refine (tooBig_any a len cap E _ HI.out HM.out HS).mono ?_
    rintro e w2 ⟨⟨B, rfl, hB⟩, rfl⟩
    cases B with
    | true =>
      clear hB
      go_wp2
      go_ret
      exact ⟨rfl, Below.refl _ _⟩
    | false =>
      obtain ⟨hl, hsz⟩ := hB rfl
      clear hB
      by_cases hb : 0 ≤ a0 ∧ a0 ≤ 65536 ∧ 0 ≤ a1 ∧ a1 ≤ 65536
      · obtain ⟨b0, b1, b2, b3⟩ := hb
        go_wp2_with (go_at_call 7; refine (zzNew_any _ a0 a1).mono ?_; rintro e w3 ⟨rfl, V, X, hB, hR, hBe⟩)
        obtain ⟨b, hbb⟩ : ∃ b, b = w2.heap.size := ⟨_, rfl⟩
        have HA : Hid (Adding w2 b a0 a1 E 0 w3) := ⟨V, X, by rw [hbb]; exact hB, hR, hBe, by omega⟩
        rw [← hbb]
        have HBB := Hid.mk hbb
        clear hB hR hBe hbb
        go_loopw [8] (fun i wr => ∃ j : Nat, j ≤ len ∧ i = .int .i64 j ∧ Hid (Adding w2 b a0 a1 E j wr)) (fun i _ => len - (intOf i).toNat)
        case atStart => exact ⟨0, by omega, rfl, HA⟩
        case round =>
          obtain ⟨j, hj, rfl, HK⟩ := hrel
          by_cases hlt : (j : Int) < len
          · obtain ⟨V1, X1, hB1, hR1, hBe1, hwb⟩ := HK.out
            rcases HI.out with h0 | ⟨ab, off, rfl, hbw, hE⟩
            · omega
            · obtain ⟨h0, h1, h2, h3, h4, h5, h6, h7, h8⟩ := (hE j (by omega)).below hBe1 hbw
              have hj0 : (0 : Int) ≤ (j : Int) := by omega
              have HZ := Hid.mk (And.intro hB1 (And.intro hR1 (And.intro hBe1 hwb)))
              clear hE hB1 hR1 hBe1 h8
              go_wp2_with (go_at_call 8; refine (zzAdd_any b _ a0 a1 V1 X1 (HZ.out.1.alloc _) b0 b1 b2 b3 (esOf E j) (by rw [esOf_len]; omega) HZ.out.2.1 (E j).k (E j).bo (E j).isI (E j).ha (E j).nsec (E j).bits (E j).ot (E j).s).mono ?_; rintro e w5 ⟨rfl, V2, X2, hB2, hS2, hR2⟩)
              go_roundw
              case rel => exact ⟨j + 1, by omega, by go_num, V2, X2, hB2, by rw [esOf_succ]; exact hR2, HZ.out.2.2.1.trans ((((Step.alloc _ _ _ _).trans hS2).below HZ.out.1).mono HZ.out.2.2.2), HZ.out.2.2.2⟩
              case measure => simp [intOf]; omega
          · obtain rfl : j = len := by omega
            obtain ⟨V1, X1, hB1, hR1, hBe1, hwb⟩ := HK.out
            have hbt := bts_le E j
            have HZ := Hid.mk (And.intro hB1 (And.intro hR1 (And.intro hBe1 hwb)))
            clear hB1 hR1 hBe1 HK HA
            go_wp2_with (go_at_call 14; refine (zzBuilt_any b _ a0 a1 V1 X1 HZ.out.1 (esOf E j) HZ.out.2.1 (by rw [esOf_len]; omega) (by show bts (esOf E j) ≤ _; omega)).mono ?_; rintro e w5 ⟨rfl, hBe5⟩)
            have HB5 : Hid (Below w2.heap.size w2 w5) := HZ.out.2.2.1.trans (hBe5.mono HZ.out.2.2.1.size)
            clear hBe5
            go_loop [14, 15, 16] (fun o z i => ∃ q : Nat, q ≤ j ∧ i = .int .i64 q ∧ o = .int .i64 (otherOf (esOf E q)) ∧ z = .int .i64 ((j : Int) + bts (esOf E q))) (fun _ _ i => j - (intOf i).toNat)
            case atStart => exact ⟨0, by omega, rfl, rfl, int_eq (by rw [show bts (esOf E 0) = 0 from rfl]; omega)⟩
            case round =>
              obtain ⟨q, hq, rfl, rfl, rfl⟩ := hrel
              by_cases hlt2 : (q : Int) < j
              · rcases HI.out with h0 | ⟨ab, off, rfl, hbw, hE⟩
                · omega
                · obtain ⟨h0, -, -, -, -, h5, -, -, -⟩ := (hE q (by omega)).below HB5.out hbw
                  have hq0 : (0 : Int) ≤ (q : Int) := by omega
                  have hb1 := bts_le E q
                  have hb2 := szs_mono E j q (by omega)
                  have hb3 : (E q).s.size ≤ 1048576 := HS.out q (by omega)
                  have HO := Hid.mk (other_succ E q)
                  have HT := Hid.mk (bts_succ E q)
                  obtain ⟨og, ol⟩ := other_ge E q
                  obtain ⟨o, ho⟩ : ∃ o, o = otherOf (esOf E q) := ⟨_, rfl⟩
                  obtain ⟨t, ht⟩ : ∃ t, t = bts (esOf E q) := ⟨_, rfl⟩
                  obtain ⟨k, hk⟩ : ∃ k, k = (E q).k := ⟨_, rfl⟩
                  rw [← ho] at og ol
                  rw [← ht] at hb1
                  rw [← hk] at h0
                  rw [← ho, ← ht]
                  rw [← ho, ← hk] at HO
                  rw [← ht, ← hk] at HT
                  clear hE ho ht hk
                  by_cases k3 : (k == 3) = true
                  · have e3 : k = 3 := by simpa using k3
                    have n2 : (k != 2) = true := by rw [e3]; rfl
                    have n3 : (k != 3) = false := by rw [e3]; rfl
                    have HE3 := Hid.mk e3
                    clear e3
                    go_wp2
                    go_round
                    case rel => exact ⟨q + 1, by omega, by go_num, int_eq (by rw [HO.out, HE3.out]; simp; omega), int_eq (by rw [HT.out, if_pos HE3.out]; omega)⟩
                    case measure => simp [intOf]; omega
                  · have k3' : (k == 3) = false := by simpa using k3
                    have n3 : (k != 3) = true := by simpa using k3
                    have HN3 : Hid (¬ k = 3) := by show ¬ k = 3; simpa using k3
                    by_cases k2 : (k != 2) = false
                    · have HE2 : Hid (k = 2) := by show k = 2; simpa using k2
                      go_wp2
                      go_round
                      case rel => exact ⟨q + 1, by omega, by go_num, int_eq (by rw [HO.out, HE2.out]; simp; omega), int_eq (by rw [HT.out, if_neg HN3.out]; omega)⟩
                      case measure => simp [intOf]; omega
                    · have k2' : (k != 2) = true := by simpa using k2
                      have HN2 : Hid (¬ k = 2) := by show ¬ k = 2; simpa using k2
                      by_cases o0 : o < 0
                      · go_wp2
                        go_round
                        case rel => exact ⟨q + 1, by omega, by go_num, int_eq (by rw [HO.out, if_neg (by omega), if_pos ⟨HN2.out, HN3.out⟩]), int_eq (by rw [HT.out, if_neg HN3.out]; omega)⟩
                        case measure => simp [intOf]; omega
                      · go_wp2
                        go_round
                        case rel => exact ⟨q + 1, by omega, by go_num, int_eq (by rw [HO.out, if_pos (by omega)]), int_eq (by rw [HT.out, if_neg HN3.out]; omega)⟩
                        case measure => simp [intOf]; omega
              · obtain rfl : q = j := by omega
                have hel := esOf_len E q
                have hso : sizeOf (esOf E q) = (q : Int) + bts (esOf E q) := by rw [sizeOf_eq, esOf_len]
                have hty1 : otherOf (esOf E q) < 0 → tyOf (otherOf (esOf E q)) = 16 := fun h => by unfold tyOf; rw [if_pos h]
                have hty2 : ¬ otherOf (esOf E q) < 0 → tyOf (otherOf (esOf E q)) = 0 := fun h => by unfold tyOf; rw [if_neg h]
                by_cases o0 : otherOf (esOf E q) < 0
                · have hty := hty1 o0
                  clear hty1 hty2
                  go_wp2
                  go_ret
                  exact ⟨rfl, HB5.out⟩
                · have hty := hty2 o0
                  clear hty1 hty2
                  go_wp2
                  go_ret
                  exact ⟨rfl, HB5.out⟩
      · by_cases c0 : a0 < 0
        · go_wp2
          go_ret
          exact ⟨rfl, Below.refl _ _⟩
        · by_cases c1 : 65536 < a0
          · go_wp2
            go_ret
            exact ⟨rfl, Below.refl _ _⟩
          · by_cases c2 : a1 < 0
            · go_wp2
              go_ret
              exact ⟨rfl, Below.refl _ _⟩
            · have c3 : 65536 < a1 := by omega
              clear hb
              go_wp2
              go_ret
              exact ⟨rfl, Below.refl _ _⟩
end Go.Proofs.Qxb6603696a
