import Derived.Test.Qxb6602991aStr
namespace Go.Proofs.Qxb6602991a
open Go.RowKit

theorem Ow.cap {w : World} {B g n cap : Nat} {l : List Int} (h : Ow w B g n cap l) : n ≤ cap := by
  obtain ⟨_, _, _, _, h⟩ := h
  rcases h with ⟨h, _⟩ | ⟨g', cap', cur, he, _, _, hc, _⟩
  · cases h
  · simp only [Value.slice.injEq] at he
    omega

theorem rd_new (w : World) (B g n cap p : Nat) (L : List Int) (h : Ow w B g n cap L) (hb : n ≤ 9000000) :
    Rd (w.alloc (.cells #[.slice (some ⟨g, 0, none⟩) n cap, .int .i64 (p : Int)] 34)) w.heap.size g n cap p L := by
  refine ⟨World.rowIs_alloc w _ 34 _ (fun i hi => ?_), h.bs.below ((Below.refl _ _).alloc (Nat.le_refl _) _), h.1, hb⟩
  have : i = 0 ∨ i = 1 := by simp at hi; omega
  rcases this with rfl | rfl <;> simp [rf]

/-- The answer of 'ZZStr'. -/
def Zs (w : World) (g P m : Nat) (E : List Int) (e : Ending) (w' : World) : Prop :=
  ∃ c', e = .returned (.tuple #[.slice (some ⟨g, P, none⟩) m c', .bool true, .int .i64 ((P + m + 1 : Nat) : Int)]) ∧ Below w.heap.size w w' ∧ Bs w' w'.heap.size (some ⟨g, P, none⟩) E

theorem zs_mk {w W : World} {b g n cap p m c' tail : Nat} {L E : List Int} {q : Int} (hq : q = ((p + 1 + m + 1 : Nat) : Int)) (h : Rd W b g n cap (p + 1 + m + 1) L) (hbl : Below w.heap.size w W) (hg : g < W.heap.size)
    (HN : L.length = p + 1 + m + 1 + tail) (HM : m = E.length) (HD : ∀ j, j < m → nth L (p + 1 + j) = nth E j) :
    Zs w g (p + 1) m E (.returned (.tuple #[.slice (some ⟨g, p + 1, none⟩) m c', .bool true, .int .i64 q])) W := by
  subst hq
  refine ⟨c', rfl, hbl, Or.inr ⟨_, rfl, fun i hi => ⟨hg, ?_⟩⟩⟩
  have hi' : i < m := by omega
  rw [show (Addr.add ⟨g, p + 1, none⟩ i) = ⟨g, p + 1 + i, none⟩ by simp [Addr.add]]
  have hl := h.len
  rw [h.dc (i := p + 1 + i) (by omega), HD i hi']

set_option maxRecDepth 100000 in
set_option maxHeartbeats 1000000 in
theorem zzb_any (a0 a1 a2 : Option Addr) (n0 n1 n2 c0 c1 c2 : Nat) (w : World) (h0 : (n0 : Int) ≤ 262144) (h1 : (n1 : Int) ≤ 65536) (h2 : (n2 : Int) ≤ 262144) :
    Calls Try.prog 12 #[.slice a0 n0 c0, .slice a1 n1 c1, .slice a2 n2 c2] w fun e w' => e = .returned (.bool true) ∧ w' = w := by
  go_enter Try.func12, Try.ntmps12
  go_wp2
  go_ret
  exact ⟨rfl, rfl⟩

/-- Some bool, the memory as it was. -/
def Bo (w : World) (e : Ending) (w' : World) : Prop := ∃ b, e = .returned (.bool b) ∧ w' = w

set_option maxRecDepth 100000 in
set_option maxHeartbeats 1000000 in
theorem zzb_some (a0 a1 a2 : Option Addr) (n0 n1 n2 c0 c1 c2 : Nat) (w : World) (h0 : n0 ≤ maxLen) (h1 : n1 ≤ maxLen) (h2 : n2 ≤ maxLen) :
    Calls Try.prog 12 #[.slice a0 n0 c0, .slice a1 n1 c1, .slice a2 n2 c2] w (Bo w) := by
  unfold maxLen at h0 h1 h2
  have i0 : (n0 : Int) ≤ 9223372036854775807 := by omega
  have i1 : (n1 : Int) ≤ 9223372036854775807 := by omega
  have i2 : (n2 : Int) ≤ 9223372036854775807 := by omega
  clear h0 h1 h2
  by_cases h0 : (n0 : Int) ≤ 1048576
  · by_cases h1 : (n1 : Int) ≤ 1048576
    · by_cases h2 : (n0 : Int) + n1 ≤ 1048576
      · by_cases h3 : (n2 : Int) ≤ 1048576
        · by_cases h4 : (n0 : Int) + n1 + n2 ≤ 1048576
          · go_enter Try.func12, Try.ntmps12
            go_wp2
            go_ret
            exact ⟨_, rfl, rfl⟩
          · go_enter Try.func12, Try.ntmps12
            go_wp2
            go_ret
            exact ⟨_, rfl, rfl⟩
        · go_enter Try.func12, Try.ntmps12
          go_wp2
          go_ret
          exact ⟨_, rfl, rfl⟩
      · go_enter Try.func12, Try.ntmps12
        go_wp2
        go_ret
        exact ⟨_, rfl, rfl⟩
    · go_enter Try.func12, Try.ntmps12
      go_wp2
      go_ret
      exact ⟨_, rfl, rfl⟩
  · go_enter Try.func12, Try.ntmps12
    go_wp2
    go_ret
    exact ⟨_, rfl, rfl⟩

set_option maxHeartbeats 4000000 in
set_option maxRecDepth 1000000 in
theorem zzstr_any (B g n cap : Nat) (pre l tail : List Int) (w : World) (h : Ow w B g n cap (docL pre (encL l) tail)) (hb : n ≤ 9000000) (hby : Bytes l) :
    Calls Try.prog 15 #[.slice (some ⟨g, 0, none⟩) n cap, .int .i64 (pre.length : Int)] w (Zs w g (pre.length + 1) (encL l).length (encL l)) := by
  have S := hmk (str_any w.heap.size g n cap pre l tail _ (rd_new w B g n cap pre.length _ h hb) h.cap hby)
  have hg := h.2.2.1
  have HD := hmk (doc_in pre (encL l) tail)
  have HN := hmk (doc_len pre (encL l) tail)
  clear h hby
  obtain ⟨L, hL⟩ : ∃ L, L = docL pre (encL l) tail := ⟨_, rfl⟩
  rw [← hL] at S HD HN
  clear hL
  obtain ⟨E, hE⟩ : ∃ E, E = encL l := ⟨_, rfl⟩
  rw [← hE] at S HD HN ⊢
  clear hE
  obtain ⟨p, hp⟩ : ∃ p, p = pre.length := ⟨_, rfl⟩
  rw [← hp] at S HD HN ⊢
  clear hp
  obtain ⟨m, hm⟩ : ∃ m, m = E.length := ⟨_, rfl⟩
  rw [← hm] at S HD HN ⊢
  have HM := hmk hm
  clear hm
  go_enter Try.func15, Try.ntmps15
  go_wp2_with (go_at_call 19; refine S.out.mono ?_; rintro e w1 ⟨c', rfl, hr, hbl⟩; have d1 := hr.c1; have HR := hmk (And.intro hr hbl); clear hr hbl)
  go_region
  go_wp2
  refine bodyPost_ret (v := .tuple #[.slice (some ⟨g, p + 1, none⟩) m c', .bool true, .int .i64 ((p : Int) + 1 + (m : Int) + 1)]) (by simp [results, Try.results15, go_sem]) rfl ?_
  exact zs_mk (by omega) HR.out.1.drew (((Below.refl _ _).alloc (Nat.le_refl _) _).trans HR.out.2).drew (Nat.lt_of_lt_of_le hg (((Below.refl w.heap.size w).alloc (Nat.le_refl _) _).trans HR.out.2).size) HN.out HM.out HD.out
end Go.Proofs.Qxb6602991a
