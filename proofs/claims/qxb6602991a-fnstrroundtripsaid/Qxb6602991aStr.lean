import Derived.Test.Qxb6602991aEscU
import Derived.Test.Qxb6602991aDoc
namespace Go.Proofs.Qxb6602991a
open Go.RowKit

/-- The answer of 'str'. -/
def Sr (w : World) (b g n cap P m : Nat) (L : List Int) (e : Ending) (w' : World) : Prop :=
  ∃ c', e = .returned (.tuple #[.slice (some ⟨g, P, none⟩) m c', .bool true]) ∧ Rd w' b g n cap (P + m + 1) L ∧ Below b w w'

/-- Where the reader stands, read off the memory. -/
def rdAt (w : World) (b : Nat) : Nat := (match w.cell? ⟨b, 1, none⟩ with | some v => intOf v | none => 0).toNat
theorem Rd.at {w : World} {b g n cap p : Nat} {L : List Int} (h : Rd w b g n cap p L) : rdAt w b = p := by
  unfold rdAt; rw [h.c1]; simp [intOf]

theorem str_round {w wr W' : World} {b g n cap q q' P k : Nat} {l L : List Int} (hlt : k < l.length) (hrd : Rd W' b g n cap q' L) (hbl : Below b w W') (hq : q' = P + (encL (l.take (k + 1))).length) (at0 : rdAt wr b = q) (hqq : q < q') (hqn : q < n) :
    Hid (∃ k : Nat, k ≤ l.length ∧ Rd W' b g n cap (P + (encL (l.take k)).length) L ∧ Below b w W') ∧ n - rdAt W' b < n - rdAt wr b := by
  refine ⟨⟨k + 1, by omega, by rw [← hq]; exact hrd, hbl⟩, ?_⟩
  rw [hrd.at, at0]
  omega

theorem sr_mk {w W : World} {b g n cap q P m : Nat} {L : List Int} (hq : q = P + m) (h1 : Rd W b g n cap (q + 1) L) (h2 : Below b w W) :
    Sr w b g n cap P m L (.returned (.tuple #[.slice (some ⟨g, P, none⟩) (q - P) (cap - P), .bool true])) W := by
  subst hq
  exact ⟨cap - P, by rw [Nat.add_sub_cancel_left], h1, h2⟩

set_option maxHeartbeats 4000000 in
set_option maxRecDepth 1000000 in
theorem str_any (b g n cap : Nat) (pre l tail : List Int) (w : World) (h : Rd w b g n cap pre.length (docL pre (encL l) tail)) (hcap : n ≤ cap) (hby : Bytes l) :
    Calls Try.prog 19 #[.pointer (some ⟨b, 0, none⟩)] w (Sr w b g n cap (pre.length + 1) (encL l).length (docL pre (encL l) tail)) := by
  have big := h.big
  have hln := doc_len pre (encL l) tail
  rw [h.len] at hln
  have N := hmk (next_any b g n cap pre.length _ 34 w h (by omega) (doc_start _ _ _))
  have HM := hmk (doc_meet pre l tail)
  have HE := hmk (doc_end pre (encL l) tail)
  have HB := hmk hby
  clear h hby
  obtain ⟨P, hP⟩ : ∃ P, P = pre.length + 1 := ⟨_, rfl⟩
  obtain ⟨L, hL⟩ : ∃ L, L = docL pre (encL l) tail := ⟨_, rfl⟩
  obtain ⟨E, hE⟩ : ∃ E, E = (encL l).length := ⟨_, rfl⟩
  rw [← hL, ← hP] at N
  rw [← hP, ← hL, ← hE] at HE
  rw [← hP, ← hL, ← hE] at HM
  rw [← hP, ← hL, ← hE]
  rw [← hP, ← hE] at hln
  have HL := hmk hE
  clear hP hL hE
  have hPI : (P : Int) ≤ 9000000 := by omega
  have hP0 : (0 : Int) ≤ (P : Int) := by omega
  go_enter Try.func19, Try.ntmps19
  go_wp2_with (go_at_call 21; refine N.out.mono ?_; rintro e w1 ⟨rfl, hr, hb⟩; have c1 := hr.c1; have HR := hmk (And.intro hr hb); clear hr hb)
  go_loopw [] (fun wr => Hid (∃ k : Nat, k ≤ l.length ∧ Rd wr b g n cap (P + (encL (l.take k)).length) L ∧ Below b w wr)) (fun wr => n - rdAt wr b)
  case atStart => exact ⟨0, by omega, by simpa [encL] using HR.out.1, HR.out.2⟩
  case round =>
    have HK := hrel
    clear hrel
    obtain ⟨k, hk, hrd, hbl⟩ := HK.out
    clear HK HR c1
    obtain ⟨q, hq⟩ : ∃ q, q = P + (encL (l.take k)).length := ⟨_, rfl⟩
    rw [← hq] at hrd
    have c0 := hrd.c0
    have c1 := hrd.c1
    have fz := hrd.fz
    have at0 := hmk hrd.at
    by_cases hlt : k < l.length
    · rcases HM.out k hlt (HB.out k hlt) q hq with ⟨c, hc, h32, n34, n92, hst, hqn⟩ | ⟨hc, hc1, hst, hqn⟩ | ⟨hc, hc1, hx, hst, hqn⟩
      · have cd := hrd.dc (i := q) (by omega)
        rw [hc] at cd
        have hpI : (q : Int) < n := by omega
        have hpb : (q : Int) ≤ 9000000 := by omega
        have hp0 : (0 : Int) ≤ (q : Int) := by omega
        have n34' : (c == 34) = false := by simpa using n34
        have n92' : (c == 92) = false := by simpa using n92
        have HF := hmk (show Rd (wr.setCell ⟨b, 1, none⟩ (.int .i64 ((q : Int) + 1))).drew.drew b g n cap (q + 1) L from (hrd.go (q + 1) _ (by omega)).drew.drew)
        have HG := hmk (Rd.bel hbl (.int .i64 ((q : Int) + 1))).drew.drew
        have HS := hmk (show q + 1 = P + (encL (l.take (k + 1))).length by omega)
        clear hrd hbl hst hq n34 n92 hc
        go_wp2
        go_region
        go_wp2
        go_region
        go_wp2
        exact str_round hlt HF.out HG.out HS.out at0.out (by omega) (by omega)
      · have cd := hrd.dc (i := q) (by omega)
        rw [hc] at cd
        have hpI : (q : Int) < n := by omega
        have hpb : (q : Int) ≤ 9000000 := by omega
        have hp0 : (0 : Int) ≤ (q : Int) := by omega
        have HF := (show Rd (wr.setCell ⟨b, 1, none⟩ (.int .i64 ((q : Int) + 1))).drew.drew b g n cap (q + 1) L from (hrd.go (q + 1) _ (by omega)).drew.drew)
        have HC := hmk (escape_plain b g n cap (q + 1) L _ HF (by omega) hc1)
        have HG := hmk (Rd.bel hbl (.int .i64 ((q : Int) + 1))).drew.drew
        have HS := hmk (show q + 1 + 1 = P + (encL (l.take (k + 1))).length by omega)
        clear hrd hbl hst hq hc hc1 HF
        go_wp2
        go_region
        go_wp2
        go_region
        go_wp2_with (go_at_call 18; refine HC.out.mono ?_; rintro e w2 ⟨rfl, hr, hb⟩; have HR := hmk (And.intro hr hb); clear hr hb)
        exact str_round hlt HR.out.1 (HG.out.trans HR.out.2) HS.out at0.out (by omega) (by omega)
      · have cd := hrd.dc (i := q) (by omega)
        rw [hc] at cd
        have hpI : (q : Int) < n := by omega
        have hpb : (q : Int) ≤ 9000000 := by omega
        have hp0 : (0 : Int) ≤ (q : Int) := by omega
        have HF := (show Rd (wr.setCell ⟨b, 1, none⟩ (.int .i64 ((q : Int) + 1))).drew.drew b g n cap (q + 1) L from (hrd.go (q + 1) _ (by omega)).drew.drew)
        have HC := hmk (escape_u b g n cap (q + 1) L _ HF (by omega) hc1 hx)
        have HG := hmk (Rd.bel hbl (.int .i64 ((q : Int) + 1))).drew.drew
        have HS := hmk (show q + 1 + 5 = P + (encL (l.take (k + 1))).length by omega)
        clear hrd hbl hst hq hc hc1 HF hx
        go_wp2
        go_region
        go_wp2
        go_region
        go_wp2_with (go_at_call 18; refine HC.out.mono ?_; rintro e w2 ⟨rfl, hr, hb⟩; have HR := hmk (And.intro hr hb); clear hr hb)
        exact str_round hlt HR.out.1 (HG.out.trans HR.out.2) HS.out at0.out (by omega) (by omega)
    · obtain rfl : k = l.length := by omega
      rw [List.take_length, ← HL.out] at hq
      have cd := hrd.dc (i := q) (by omega)
      rw [show nth L q = 34 by rw [hq]; exact HE.out] at cd
      have hpI : (q : Int) < n := by omega
      have hpb : (q : Int) ≤ 9000000 := by omega
      have hp0 : (0 : Int) ≤ (q : Int) := by omega
      have hPq : (P : Int) ≤ (q : Int) := by omega
      have hqc : (q : Int) ≤ (cap : Int) := by omega
      have HF := (show Rd (wr.setCell ⟨b, 1, none⟩ (.int .i64 ((q : Int) + 1))).drew.drew b g n cap (q + 1) L from (hrd.go (q + 1) _ (by omega)).drew.drew)
      have HG := hmk (Rd.bel hbl (.int .i64 ((q : Int) + 1))).drew.drew
      have HQ := hmk hq
      clear hrd hbl hq hk hlt
      go_wp2
      go_region
      go_wp2
      go_region
      go_wp2
      have d0 := HF.c0
      have d1 := HF.c1
      have HH := hmk HF
      clear HF
      go_region
      go_wp2
      go_ret2
      exact sr_mk HQ.out HH.out.drew HG.out.drew
end Go.Proofs.Qxb6602991a
