import Derived.Test.Qxb6602721aRows
import Derived.Test.Qxb6602721aWidthPlain
import Derived.WalkKit
import Derived.ProofKit
import Derived.WalkLawsBesides
namespace Go.Proofs.Qxb6602721a
open Go.RowKit

theorem ret_int {k : IntKind} {a b : Int} (h : a = b) : Ending.returned (.int k a) = .returned (.int k b) := by rw [h]

set_option maxRecDepth 100000 in
set_option maxHeartbeats 400000 in
theorem zzb_any (s : ByteArray) (w : World) (hs : s.size ≤ maxLen) :
    Calls Try.prog 10 #[.string s] w fun e w' => e = .returned (.bool (decide ((s.size : Int) ≤ 1048576))) ∧ w' = w := by
  unfold maxLen at hs
  by_cases h : (s.size : Int) ≤ 1048576
  · go_enter Try.func10, Try.ntmps10
    go_wp2
    go_ret
    exact ⟨by simp [h], rfl⟩
  · go_enter Try.func10, Try.ntmps10
    go_wp2
    go_ret
    exact ⟨by simp [h], rfl⟩

theorem seq_bt {s : ByteArray} {i : Nat} (h : i < s.size) : ((s[i]'h).toNat : Int) = (bt s i : Int) := by rw [bt_eq s i h]

set_option maxRecDepth 100000 in
set_option maxHeartbeats 1000000 in
theorem seq_small (s : ByteArray) (i : Nat) (w : World) (hi : i < s.size) (h : (s[i].toNat : Int) < 194 ∨ 244 < (s[i].toNat : Int)) :
    Calls Try.prog 17 #[.string s, .int .i64 i] w fun e w' => ∃ k : Nat, e = .returned (.int .i64 k) ∧ w' = w ∧ SeqOk s i k := by
  by_cases h1 : (s[i].toNat : Int) < 128
  · go_enter Try.func17, Try.ntmps17
    go_wp2
    go_ret
    exact ⟨1, rfl, rfl, seq_one s i hi (by rw [seq_bt hi] at h1; omega)⟩
  · go_enter Try.func17, Try.ntmps17
    go_wp2
    all_goals go_ret
    all_goals exact ⟨0, rfl, rfl, seq_err s i (by rw [seq_bt hi] at h1; omega) (Or.inl (by rw [seq_bt hi] at h; omega))⟩

theorem byte_at {s : ByteArray} {i : Nat} (h : i < s.size) : (0 : Int) ≤ ((s[i]'h).toNat : Int) ∧ ((s[i]'h).toNat : Int) ≤ 255 := by
  have := bt_lt s i; rw [seq_bt h]; omega

/-- The rounds' bytes that have been looked at are continuation bytes. -/
def Conts (s : ByteArray) (i j : Nat) : Prop := ∀ m, 2 ≤ m → m < j → 128 ≤ bt s (i + m) ∧ bt s (i + m) ≤ 191

theorem cls_cases {b lo hh : Int} {n : Nat} (h : Cls b lo hh n) :
    (lo = 128 ∧ hh = 191 ∧ n = 2 ∧ (b == 224) = false ∧ (b == 237) = false ∧ (b == 240) = false ∧ (b == 244) = false ∧ 194 ≤ b ∧ b ≤ 223) ∨
    (lo = 160 ∧ hh = 191 ∧ n = 3 ∧ (b == 224) = true ∧ (b == 237) = false ∧ (b == 240) = false ∧ (b == 244) = false ∧ 224 ≤ b ∧ b ≤ 224) ∨
    (lo = 128 ∧ hh = 191 ∧ n = 3 ∧ (b == 224) = false ∧ (b == 237) = false ∧ (b == 240) = false ∧ (b == 244) = false ∧ 225 ≤ b ∧ b ≤ 236) ∨
    (lo = 128 ∧ hh = 159 ∧ n = 3 ∧ (b == 224) = false ∧ (b == 237) = true ∧ (b == 240) = false ∧ (b == 244) = false ∧ 237 ≤ b ∧ b ≤ 237) ∨
    (lo = 128 ∧ hh = 191 ∧ n = 3 ∧ (b == 224) = false ∧ (b == 237) = false ∧ (b == 240) = false ∧ (b == 244) = false ∧ 238 ≤ b ∧ b ≤ 239) ∨
    (lo = 144 ∧ hh = 191 ∧ n = 4 ∧ (b == 224) = false ∧ (b == 237) = false ∧ (b == 240) = true ∧ (b == 244) = false ∧ 240 ≤ b ∧ b ≤ 240) ∨
    (lo = 128 ∧ hh = 191 ∧ n = 4 ∧ (b == 224) = false ∧ (b == 237) = false ∧ (b == 240) = false ∧ (b == 244) = false ∧ 241 ≤ b ∧ b ≤ 243) ∨
    (lo = 128 ∧ hh = 143 ∧ n = 4 ∧ (b == 224) = false ∧ (b == 237) = false ∧ (b == 240) = false ∧ (b == 244) = true ∧ 244 ≤ b ∧ b ≤ 244) := by
  have e : ∀ c : Int, (b == c) = decide (b = c) := fun c => by rw [Bool.eq_iff_iff]; simp
  simp only [e, decide_eq_true_eq, decide_eq_false_iff_not]
  unfold Cls at h
  rcases h with h | h | h | h | h | h | h
  · exact Or.inl (by omega)
  · exact Or.inr (Or.inl (by omega))
  · by_cases g : b < 237
    · exact Or.inr (Or.inr (Or.inl (by omega)))
    · exact Or.inr (Or.inr (Or.inr (Or.inr (Or.inl (by omega)))))
  · exact Or.inr (Or.inr (Or.inr (Or.inl (by omega))))
  · exact Or.inr (Or.inr (Or.inr (Or.inr (Or.inr (Or.inl (by omega))))))
  · exact Or.inr (Or.inr (Or.inr (Or.inr (Or.inr (Or.inr (Or.inl (by omega)))))))
  · exact Or.inr (Or.inr (Or.inr (Or.inr (Or.inr (Or.inr (Or.inr (by omega)))))))

set_option maxRecDepth 100000 in
set_option maxHeartbeats 4000000 in
theorem seq_short (s : ByteArray) (i : Nat) (w : World) (hs : (s.size : Int) ≤ 1048576) (hi : i < s.size) (lo hh : Int) (n : Nat) (hc : Cls (s[i].toNat : Int) lo hh n)
    (HC : Hid (Cls (bt s i) lo hh n)) (HL : Hid (128 ≤ bt s i)) (hsz : ¬ (i : Int) + n ≤ s.size) :
    Calls Try.prog 17 #[.string s, .int .i64 i] w fun e w' => ∃ k : Nat, e = .returned (.int .i64 k) ∧ w' = w ∧ SeqOk s i k := by
  rcases cls_cases hc with ⟨rfl, rfl, rfl, c1, c2, c3, c4, g1, g2⟩ | ⟨rfl, rfl, rfl, c1, c2, c3, c4, g1, g2⟩ | ⟨rfl, rfl, rfl, c1, c2, c3, c4, g1, g2⟩ | ⟨rfl, rfl, rfl, c1, c2, c3, c4, g1, g2⟩ | ⟨rfl, rfl, rfl, c1, c2, c3, c4, g1, g2⟩ | ⟨rfl, rfl, rfl, c1, c2, c3, c4, g1, g2⟩ | ⟨rfl, rfl, rfl, c1, c2, c3, c4, g1, g2⟩ | ⟨rfl, rfl, rfl, c1, c2, c3, c4, g1, g2⟩
  all_goals
    clear hc
    go_enter Try.func17, Try.ntmps17
    go_wp2
    go_ret
    exact ⟨0, rfl, rfl, seq_err s i HL.out (Or.inr ⟨_, _, _, HC.out, Or.inl (by omega)⟩)⟩

set_option maxRecDepth 100000 in
set_option maxHeartbeats 4000000 in
theorem seq_bad (s : ByteArray) (i : Nat) (w : World) (hs : (s.size : Int) ≤ 1048576) (hi : i < s.size) (lo hh : Int) (n : Nat) (hc : Cls (s[i].toNat : Int) lo hh n)
    (HC : Hid (Cls (bt s i) lo hh n)) (HL : Hid (128 ≤ bt s i)) (hsz : (i : Int) + n ≤ s.size) (h1 : i + 1 < s.size) (hbad : (s[i + 1].toNat : Int) < lo ∨ hh < (s[i + 1].toNat : Int)) :
    Calls Try.prog 17 #[.string s, .int .i64 i] w fun e w' => ∃ k : Nat, e = .returned (.int .i64 k) ∧ w' = w ∧ SeqOk s i k := by
  have h1' : (0 : Int) ≤ (i : Int) + 1 ∧ (i : Int) + 1 < s.size := by omega
  have HB : Hid ((bt s (i + 1) : Int) < lo ∨ hh < (bt s (i + 1) : Int)) := by rw [seq_bt h1] at hbad; exact hbad
  rcases cls_cases hc with ⟨rfl, rfl, rfl, c1, c2, c3, c4, g1, g2⟩ | ⟨rfl, rfl, rfl, c1, c2, c3, c4, g1, g2⟩ | ⟨rfl, rfl, rfl, c1, c2, c3, c4, g1, g2⟩ | ⟨rfl, rfl, rfl, c1, c2, c3, c4, g1, g2⟩ | ⟨rfl, rfl, rfl, c1, c2, c3, c4, g1, g2⟩ | ⟨rfl, rfl, rfl, c1, c2, c3, c4, g1, g2⟩ | ⟨rfl, rfl, rfl, c1, c2, c3, c4, g1, g2⟩ | ⟨rfl, rfl, rfl, c1, c2, c3, c4, g1, g2⟩
  all_goals
    clear hc
    go_enter Try.func17, Try.ntmps17
    go_wp2
    all_goals go_ret
    all_goals exact ⟨0, rfl, rfl, seq_err s i HL.out (Or.inr ⟨_, _, _, HC.out, Or.inr (Or.inl HB.out)⟩)⟩

theorem conts_snoc {s : ByteArray} {i j : Nat} (h : Conts s i j) (hj : i + j < s.size) (a : 128 ≤ ((s[i + j]'hj).toNat : Int)) (b : ((s[i + j]'hj).toNat : Int) ≤ 191) : Conts s i (j + 1) := by
  intro m h2 hm
  by_cases e : m = j
  · subst e; rw [seq_bt hj] at a b; omega
  · exact h m h2 (by omega)

theorem conts_fine {s : ByteArray} {i n : Nat} {lo hh : Int} (hc : Cls (bt s i) lo hh n) (h : Conts s i n) (hsz : (i : Int) + n ≤ s.size) (hg : lo ≤ (bt s (i + 1) : Int) ∧ (bt s (i + 1) : Int) ≤ hh) : SeqOk s i n :=
  seq_fine s i n lo hh hc (by omega) hg (fun h3 => h 2 (by omega) (by omega)) (fun h4 => h 3 (by omega) (by omega))

theorem conts_err {s : ByteArray} {i n j : Nat} {lo hh : Int} (hc : Cls (bt s i) lo hh n) (hl : 128 ≤ bt s i) (h2 : 2 ≤ j) (hj : j < n) (hij : i + j < s.size) (h : ((s[i + j]'hij).toNat : Int) < 128 ∨ 191 < ((s[i + j]'hij).toNat : Int)) : SeqOk s i 0 := by
  rw [seq_bt hij] at h
  have hn : n = 2 ∨ n = 3 ∨ n = 4 := by unfold Cls at hc; omega
  have : j = 2 ∨ j = 3 := by omega
  rcases this with rfl | rfl
  · exact seq_err s i hl (Or.inr ⟨_, _, _, hc, Or.inr (Or.inr (Or.inl (by omega)))⟩)
  · exact seq_err s i hl (Or.inr ⟨_, _, _, hc, Or.inr (Or.inr (Or.inr (by omega)))⟩)

end Go.Proofs.Qxb6602721a
