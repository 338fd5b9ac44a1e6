import Derived.Test.Qxb6602991aRd
namespace Go.Proofs.Qxb6602991a
open Go.RowKit

set_option maxHeartbeats 2000000 in
set_option maxRecDepth 1000000 in
theorem escape_u (b g n cap p : Nat) (L : List Int) (w : World) (h : Rd w b g n cap p L) (hp : p + 4 < n) (hc : nth L p = 117) (hx : ∀ j, j < 4 → Hx (nth L (p + 1 + j))) :
    Calls Try.prog 18 #[.pointer (some ⟨b, 0, none⟩)] w (Rt w b g n cap (p + 5) L) := by
  have c0 := h.c0
  have c1 := h.c1
  have fz := h.fz
  have cd := h.dc (i := p) (by omega)
  have big := h.big
  have hpI : (p : Int) < n := by omega
  have hpb : (p : Int) ≤ 9000000 := by omega
  have hp0 : (0 : Int) ≤ (p : Int) := by omega
  have hpn : ((p : Int) == (n : Int)) = false := by simp; omega
  have HR := hmk h
  have HX := hmk hx
  clear h hx
  rw [hc] at cd
  clear hc
  go_enter Try.func18, Try.ntmps18
  go_wp2
  go_region
  go_wp2
  go_region
  go_wp2
  go_loopw [43] (fun i wr => ∃ k : Nat, k ≤ 4 ∧ i = .int .i64 k ∧ Hid (Rd wr b g n cap (p + 1 + k) L ∧ Below b w wr)) (fun i _ => 4 - (intOf i).toNat)
  case atStart => exact ⟨0, by omega, rfl, HR.out.drew.drew.go (p + 1) _ (by omega), Rd.bel (Below.refl _ _).drew.drew _⟩
  case round =>
    obtain ⟨k, hk, rfl, HK⟩ := hrel
    clear c0 c1 fz cd hpI hpb hp0 hpn
    by_cases hlt : (k : Int) < 4
    · have hlt' : k < 4 := by omega
      obtain ⟨q, hq⟩ : ∃ q, q = p + 1 + k := ⟨_, rfl⟩
      have HK' := HK
      rw [← hq] at HK'
      have c0 := HK'.out.1.c0
      have c1 := HK'.out.1.c1
      have fz := HK'.out.1.fz
      have cd := HK'.out.1.dc (i := q) (by omega)
      have hpI : (q : Int) < n := by omega
      have hpb : (q : Int) ≤ 9000000 := by omega
      have hp0 : (0 : Int) ≤ (q : Int) := by omega
      have hpn : ((q : Int) == (n : Int)) = false := by simp; omega
      have hxk := hmk (HX.out k hlt')
      rw [← hq] at hxk
      obtain ⟨y, hy⟩ : ∃ y, y = nth L q := ⟨_, rfl⟩
      rw [← hy] at cd hxk
      have HQ := hmk hq
      clear hy hq
      go_wp2
      go_region_held3 (fun w' => w' = wr.drew) (first | go_keep | rfl)
        ((go_at_call 20; refine (isHex_any y _ hxk.out).mono ?_; rintro e w2 ⟨rfl, rfl⟩))
      all_goals go_wp2
      all_goals
        refine ⟨⟨k + 1, by omega, by simp, (HK'.out.1.go (p + 1 + (k + 1)) _ (by have := HQ.out; omega)).drew, (Rd.bel HK'.out.2 _).drew⟩, ?_⟩
        simp only [intOf]
        omega
    · obtain rfl : k = 4 := by omega
      go_wp2
      go_ret
      exact ⟨rfl, HK.out.1, HK.out.2⟩
end Go.Proofs.Qxb6602991a
