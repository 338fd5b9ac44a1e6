import Derived.Test.Qxb6602991aAll
import Derived.Laws.BitsAllLaws
namespace Go.Proofs.Qxb6602991a
open Go.RowKit

/-- The digit d in lower case. -/
def lowB (d : Nat) : Int := if d < 10 then 48 + d else 87 + d

theorem low_at (d : Nat) (h : d < ({ data := #[48, 49, 50, 51, 52, 53, 54, 55, 56, 57, 97, 98, 99, 100, 101, 102] } : ByteArray).size) :
    ((({ data := #[48, 49, 50, 51, 52, 53, 54, 55, 56, 57, 97, 98, 99, 100, 101, 102] } : ByteArray)[d]'h).toNat : Int) = lowB d := by
  have h' : d < 16 := h
  have : d = 0 ∨ d = 1 ∨ d = 2 ∨ d = 3 ∨ d = 4 ∨ d = 5 ∨ d = 6 ∨ d = 7 ∨ d = 8 ∨ d = 9 ∨ d = 10 ∨ d = 11 ∨ d = 12 ∨ d = 13 ∨ d = 14 ∨ d = 15 := by omega
  rcases this with rfl | rfl | rfl | rfl | rfl | rfl | rfl | rfl | rfl | rfl | rfl | rfl | rfl | rfl | rfl | rfl <;> rfl

theorem u8_and15 (y : Int) (r : Nat) (h0 : 0 ≤ y) (h1 : y ≤ 255) (hr : y % 16 = r) : bits .and .u8 y 15 = r := by
  obtain ⟨v, rfl⟩ : ∃ v : Nat, y = v := ⟨y.toNat, by omega⟩
  rw [show (15 : Int) = ((15 : Nat) : Int) from rfl, u8_and_nat v 15 (by omega) (by omega), nat_mask4]
  omega

/-- One byte as it is written inside a JSON string. -/
def e1 (c : Int) : List Int := if c = 34 then [92, 34] else if c = 92 then [92, 92] else if c < 32 then [92, 117, 48, 48, lowB (c / 16).toNat, lowB (c % 16).toNat] else [c]
def encL (l : List Int) : List Int := l.flatMap e1

theorem e1_len (c : Int) : 1 ≤ (e1 c).length ∧ (e1 c).length ≤ 6 := by
  unfold e1; split
  · simp
  · split
    · simp
    · split <;> simp

theorem enc_len (l : List Int) : (encL l).length ≤ 6 * l.length := by
  unfold encL
  induction l with
  | nil => simp
  | cons x xs ih => rw [List.flatMap_cons, List.length_append, List.length_cons]; have := (e1_len x).2; omega

theorem enc_next (l : List Int) (k : Nat) (h : k < l.length) : encL (l.take k) ++ e1 (nth l k) = encL (l.take (k + 1)) := by
  rw [← take_next l k h]
  simp [encL]

theorem bs2 (x y : Int) : ∀ w, (Instr.buildSlice 22 2 #[(0, .int .u8 x), (1, .int .u8 y)]).run Try.prog w = .ok (.slice (some ⟨w.heap.size, 0, none⟩) 2 2) (w.alloc (.cells #[.int .u8 x, .int .u8 y] 5)) := fun _ => by kernel_rfl
theorem bs6 (a b c d x y : Int) : ∀ w, (Instr.buildSlice 22 6 #[(0, .int .u8 a), (1, .int .u8 b), (2, .int .u8 c), (3, .int .u8 d), (4, .int .u8 x), (5, .int .u8 y)]).run Try.prog w = .ok (.slice (some ⟨w.heap.size, 0, none⟩) 6 6) (w.alloc (.cells #[.int .u8 a, .int .u8 b, .int .u8 c, .int .u8 d, .int .u8 x, .int .u8 y] 5)) := fun _ => by kernel_rfl

theorem make_cap (N : Nat) (h : N ≤ 9000000) (w : World) : (Instr.makeSlice 22 (.int .i64 0) (.int .i64 (N : Int))).run Try.prog w = .ok (.slice (some ⟨w.heap.size, 0, none⟩) 0 N) (w.alloc (.cells (madeCells #[.int .u8 0] N) 5)) := by
  obtain ⟨i, hi, hz0, hz1, hz2⟩ := info_parts' info5
  have hr := run_make (P := Try.prog) w 22 5 i (.int .u8 0) Try.underlying22 hi hz0 .i64 .i64 0 N (by omega) (by omega) (by rw [hz2]; omega) (by omega)
  simp only [Int.toNat_natCast, hz1, Nat.mul_one, Int.toNat_zero] at hr
  exact hr

theorem ow_made (w : World) (N : Nat) (h : N ≤ 9000000) : Ow (w.alloc (.cells (madeCells #[.int .u8 0] N) 5)) w.heap.size w.heap.size 0 N [] := by
  refine ⟨rfl, by rw [size_new]; omega, by rw [size_new]; omega, ?_⟩
  exact World.ownsRow_made w (madeCells #[.int .u8 0] N) N (Nat.le_refl _) (by unfold maxLen; omega) (by rw [size_madeCells]; omega)

theorem Ow.drew {w : World} {B g n cap : Nat} {l : List Int} (h : Ow w B g n cap l) : Ow w.drew B g n cap l := h

/-- The answer of 'jsonEscapeBody' and of its rounds. -/
def Bytes (l : List Int) : Prop := ∀ i, i < l.length → 0 ≤ nth l i ∧ nth l i ≤ 255

theorem enc_round {l ys : List Int} {k n n1 m g2 cap2 B : Nat} {y : Int} {w wr w1 : World} (hk : k < n) (HN : encL (l.take k) ++ e1 y = encL (l.take (k + 1))) (HE : e1 y = ys)
    (HO : Ow w1 B g2 (n1 + m) cap2 (encL (l.take k) ++ ys) ∧ Below B wr w1) (hb : Below B w wr) :
    (∃ k_1 g1 n1_1 cap1 : Nat, k_1 ≤ n ∧ Value.int IntKind.i64 ((k : Int) + 1) = Value.int IntKind.i64 k_1 ∧ Value.slice (some ⟨g2, 0, none⟩) (n1 + m) cap2 = Value.slice (some ⟨g1, 0, none⟩) n1_1 cap1 ∧
      n1_1 = (encL (l.take k_1)).length ∧ Hid (Ow w1 B g1 n1_1 cap1 (encL (l.take k_1)) ∧ Below B w w1)) ∧
    n - (intOf (Value.int IntKind.i64 ((k : Int) + 1))).toNat < n - (intOf (Value.int IntKind.i64 (k : Int))).toNat := by
  subst HE
  rw [HN] at HO
  refine ⟨⟨k + 1, g2, n1 + m, cap2, by omega, by simp, rfl, HO.1.1.symm, HO.1, hb.trans HO.2⟩, ?_⟩
  simp only [intOf]
  omega

set_option maxHeartbeats 2000000 in
set_option maxRecDepth 1000000 in
theorem enc_any (a : Option Addr) (n c : Nat) (l : List Int) (w : World) (h : Bs w w.heap.size a l) (hn : l.length = n) (hbd : n ≤ 65536) (hby : Bytes l) :
    Calls Try.prog 13 #[.slice a n c] w (Aa w w.heap.size (encL l).length (encL l)) := by
  have hbI : (n : Int) ≤ 65536 := by omega
  have hmake := make_cap (6 * n) (by omega)
  rw [show ((6 * n : Nat) : Int) = 6 * (n : Int) by omega] at hmake
  rcases h with ⟨rfl, rfl⟩ | ⟨x, rfl, h⟩
  · obtain rfl : n = 0 := by simpa using hn.symm
    have hm0 := make_cap 0 (by omega)
    simp only [Int.natCast_zero] at hm0
    clear hmake
    go_enter Try.func13, Try.ntmps13
    go_wp2
    refine wp_loop_rounds 1 ?_
    rw [rounds_succ]
    go_wp2
    go_ret
    exact ⟨_, _, rfl, ow_made w 0 (by omega), (Below.refl _ _).alloc (Nat.le_refl _) _⟩
  · have HC := hmk h
    have HB := hmk hby
    clear h hby
    go_enter Try.func13, Try.ntmps13
    go_wp2
    go_loopw [3, 4] (fun d i wr => ∃ k g1 n1 cap1 : Nat, k ≤ n ∧ i = .int .i64 k ∧ d = .slice (some ⟨g1, 0, none⟩) n1 cap1 ∧ n1 = (encL (l.take k)).length ∧ Hid (Ow wr w.heap.size g1 n1 cap1 (encL (l.take k)) ∧ Below w.heap.size w wr)) (fun _ i _ => n - (intOf i).toNat)
    case atStart => exact ⟨0, w.heap.size, 0, 6 * n, by omega, rfl, rfl, by simp [encL], by simpa [encL] using ow_made w (6 * n) (by omega), (Below.refl _ _).alloc (Nat.le_refl _) _⟩
    case round =>
      obtain ⟨k, g1, n1, cap1, hk, rfl, rfl, hn1, HR⟩ := hrel
      by_cases hlt : (k : Int) < n
      · have hlt' : k < n := by omega
        have hc1 := HC.out k (by omega)
        have hcx : wr.cell? (x.add k) = some (.int .u8 (nth l k)) := by
          rw [HR.out.2.cell (p := x.add k) (by rw [add_blk]; exact hc1.1)]; exact hc1.2
        have hk0 : (0 : Int) ≤ (k : Int) := by omega
        have hnx := enc_next l k (by omega)
        have hcb := HB.out k (by omega)
        have hn6 : n1 ≤ 6 * k := by rw [hn1]; have := enc_len (l.take k); rw [List.length_take] at this; omega
        obtain ⟨y, hy⟩ : ∃ y, y = nth l k := ⟨_, rfl⟩
        rw [← hy] at hcx hnx hcb
        have HN := hmk hnx
        clear hc1 hy hnx hn1
        by_cases k34 : (y == 34) = true
        · have ey : e1 y = [92, 34] := by unfold e1; rw [if_pos (by simpa using k34)]
          have hbs := bs2
          obtain ⟨g2, cap2, w1, hrun, hown, hbel⟩ := app_own [92, 34] #[.int .u8 92, .int .u8 34] 2 rfl rfl HR.out.1 (by omega) (by omega)
          have HO := hmk (And.intro hown hbel)
          have HE := hmk ey
          clear hown hbel ey
          go_wp2_with (at_builtin; refine wpList_append_run _ rfl (.tmp 27) (.tmp 28) 22 rfl _ _ _ _ hrun rfl rfl ?_)
          exact enc_round hlt' HN.out HE.out HO.out HR.out.2
        · have k34' : (y == 34) = false := by simpa using k34
          by_cases k92 : (y == 92) = true
          · have ey : e1 y = [92, 92] := by unfold e1; rw [if_neg (by simpa using k34'), if_pos (by simpa using k92)]
            have hbs := bs2
            obtain ⟨g2, cap2, w1, hrun, hown, hbel⟩ := app_own [92, 92] #[.int .u8 92, .int .u8 92] 2 rfl rfl HR.out.1 (by omega) (by omega)
            have HO := hmk (And.intro hown hbel)
            have HE := hmk ey
            clear hown hbel ey
            go_wp2_with (at_builtin; refine wpList_append_run _ rfl (.tmp 33) (.tmp 34) 22 rfl _ _ _ _ hrun rfl rfl ?_)
            exact enc_round hlt' HN.out HE.out HO.out HR.out.2
          · have k92' : (y == 92) = false := by simpa using k92
            by_cases k32 : y < 32
            · have hcb0 := hcb.1
              have hcb1 := hcb.2
              obtain ⟨q, hq⟩ : ∃ q : Nat, y / 16 = q := ⟨(y / 16).toNat, by omega⟩
              obtain ⟨r, hr⟩ : ∃ r : Nat, y % 16 = r := ⟨(y % 16).toNat, by omega⟩
              have s1 : ({ data := #[48, 49, 50, 51, 52, 53, 54, 55, 56, 57, 97, 98, 99, 100, 101, 102] } : ByteArray).size = 16 := rfl
              have l1 := low_at q (by rw [s1]; omega)
              have l2 := low_at r (by rw [s1]; omega)
              have ey : e1 y = [92, 117, 48, 48, lowB q, lowB r] := by
                unfold e1; rw [if_neg (by simpa using k34'), if_neg (by simpa using k92'), if_pos k32, hq, hr]; rfl
              have hbs := bs6
              have hand := u8_and15 y r hcb0 hcb1 hr
              have hq0 : (q : Int) < 16 := by omega
              have hr0 : (r : Int) < 16 := by omega
              obtain ⟨g2, cap2, w1, hrun, hown, hbel⟩ := app_own [92, 117, 48, 48, lowB q, lowB r] #[.int .u8 92, .int .u8 117, .int .u8 48, .int .u8 48, .int .u8 (lowB q), .int .u8 (lowB r)] 6 rfl rfl HR.out.1.drew (by omega) (by omega)
              have HO := hmk (And.intro hown hbel)
              have HE := hmk ey
              clear hown hbel ey
              go_wp2_with fail
              go_region_law (refine step_append_run _ (by rfl) _ _ 22 (by rfl) _ _ _ _ hrun (by rfl) (by rfl) ?_)
              all_goals go_wp2
              all_goals exact enc_round hlt' HN.out HE.out HO.out HR.out.2.drew
            · have ey : e1 y = [y] := by unfold e1; rw [if_neg (by simpa using k34'), if_neg (by simpa using k92'), if_neg k32]
              have hbs := bs1
              obtain ⟨g2, cap2, w1, hrun, hown, hbel⟩ := app_own [y] #[.int .u8 y] 1 rfl rfl HR.out.1 (by omega) (by omega)
              have HO := hmk (And.intro hown hbel)
              have HE := hmk ey
              clear hown hbel ey
              go_wp2_with (at_builtin; refine wpList_append_run _ rfl (.tmp 20) (.tmp 22) 22 rfl _ _ _ _ hrun rfl rfl ?_)
              exact enc_round hlt' HN.out HE.out HO.out HR.out.2
      · obtain rfl : k = n := by omega
        have ht : l.take k = l := List.take_of_length_le (by omega)
        rw [ht] at hn1 HR
        subst hn1
        clear ht
        go_wp2
        go_ret
        exact ⟨_, _, rfl, HR.out.1, HR.out.2⟩
end Go.Proofs.Qxb6602991a
