import Derived.Laws.RangeAny
namespace Go.Proofs.Qxb6602721a
open Go

/-- What the lead byte asks: the second byte's bounds and the number of bytes. -/
def Cls (b lo hi need : Int) : Prop :=
  (194 ≤ b ∧ b ≤ 223 ∧ lo = 128 ∧ hi = 191 ∧ need = 2) ∨
  (b = 224 ∧ lo = 160 ∧ hi = 191 ∧ need = 3) ∨
  (225 ≤ b ∧ b ≤ 239 ∧ b ≠ 237 ∧ lo = 128 ∧ hi = 191 ∧ need = 3) ∨
  (b = 237 ∧ lo = 128 ∧ hi = 159 ∧ need = 3) ∨
  (b = 240 ∧ lo = 144 ∧ hi = 191 ∧ need = 4) ∨
  (241 ≤ b ∧ b ≤ 243 ∧ lo = 128 ∧ hi = 191 ∧ need = 4) ∨
  (b = 244 ∧ lo = 128 ∧ hi = 143 ∧ need = 4)

/-- The byte at place j as a number (0 beyond the end). -/
def bt (s : ByteArray) (j : Nat) : Nat := (s.get! j).toNat

theorem bt_eq (s : ByteArray) (j : Nat) (h : j < s.size) : bt s j = (s[j]'h).toNat := by
  unfold bt
  rw [show s.get! j = s[j]'h from get_at s j h]

theorem bt_lt (s : ByteArray) (j : Nat) : bt s j < 256 := (s.get! j).toNat_lt

/-- The decoder's answer, in numbers. -/
def dec (n i b0 b1 b2 b3 : Nat) : Nat × Nat :=
  if b0 < 128 then (b0, 1)
  else if b0 / 32 = 6 ∧ i + 1 < n ∧ b1 / 64 = 2 then
    (if 128 ≤ (b0 % 32) * 64 + b1 % 64 then ((b0 % 32) * 64 + b1 % 64, 2) else (65533, 1))
  else if b0 / 16 = 14 ∧ (i + 1 < n ∧ b1 / 64 = 2) ∧ (i + 2 < n ∧ b2 / 64 = 2) then
    (if 2048 ≤ (b0 % 16) * 4096 + (b1 % 64) * 64 + b2 % 64 ∧ (b0 % 16) * 4096 + (b1 % 64) * 64 + b2 % 64 ≤ 1114111 ∧ ((b0 % 16) * 4096 + (b1 % 64) * 64 + b2 % 64 < 55296 ∨ 57344 ≤ (b0 % 16) * 4096 + (b1 % 64) * 64 + b2 % 64) then ((b0 % 16) * 4096 + (b1 % 64) * 64 + b2 % 64, 3) else (65533, 1))
  else if b0 / 8 = 30 ∧ (i + 1 < n ∧ b1 / 64 = 2) ∧ (i + 2 < n ∧ b2 / 64 = 2) ∧ (i + 3 < n ∧ b3 / 64 = 2) then
    (if 65536 ≤ (b0 % 8) * 262144 + (b1 % 64) * 4096 + (b2 % 64) * 64 + b3 % 64 ∧ (b0 % 8) * 262144 + (b1 % 64) * 4096 + (b2 % 64) * 64 + b3 % 64 ≤ 1114111 then ((b0 % 8) * 262144 + (b1 % 64) * 4096 + (b2 % 64) * 64 + b3 % 64, 4) else (65533, 1))
  else (65533, 1)

theorem valid_nat (c : Nat) : Utf8.valid (c : Int) = decide (c ≤ 1114111 ∧ (c < 55296 ∨ 57344 ≤ c)) := by
  unfold Utf8.valid
  rw [Bool.eq_iff_iff]
  simp
  omega

theorem decode_eq (s : ByteArray) (i : Nat) : Utf8.decode s i = dec s.size i (bt s i) (bt s (i + 1)) (bt s (i + 2)) (bt s (i + 3)) := by
  have e0 : (s.get! (i + 0)).toNat = bt s i := rfl
  have e1 : (s.get! (i + 1)).toNat = bt s (i + 1) := rfl
  have e2 : (s.get! (i + 2)).toNat = bt s (i + 2) := rfl
  have e3 : (s.get! (i + 3)).toNat = bt s (i + 3) := rfl
  unfold Utf8.decode dec
  simp only [e0, e1, e2, e3, valid_nat]
  generalize bt s i = b0
  generalize bt s (i + 1) = b1
  generalize bt s (i + 2) = b2
  generalize bt s (i + 3) = b3
  simp only [Utf8.runeError, Bool.and_eq_true, decide_eq_true_eq, beq_iff_eq, ge_iff_le, and_assoc]
  split
  · rfl
  · split
    · rfl
    · split
      · rfl
      · split
        · split <;> split <;> first | rfl | omega
        · rfl

/-- What 'widthSeqLen' answers, as said of the decoder. -/
def SeqOk (s : ByteArray) (i k : Nat) : Prop :=
  (k = 0 ∧ Utf8.decode s i = (65533, 1)) ∨
  (0 < k ∧ (Utf8.decode s i).2 = k ∧ i + k ≤ s.size ∧
    (11904 ≤ (Utf8.decode s i).1 ↔ (k = 4 ∨ (k = 3 ∧ (226 < bt s i ∨ (bt s i = 226 ∧ 186 ≤ bt s (i + 1)))))))

theorem dec_err (n i b0 b1 b2 b3 : Nat) (h0 : 128 ≤ b0) (h : (b0 < 194 ∨ 244 < b0) ∨ ∃ lo hi need : Int, Cls b0 lo hi need ∧
    ((n : Int) < i + need ∨ ((b1 : Int) < lo ∨ hi < b1) ∨ (3 ≤ need ∧ (b2 < 128 ∨ 191 < b2)) ∨ (4 ≤ need ∧ (b3 < 128 ∨ 191 < b3)))) :
    dec n i b0 b1 b2 b3 = (65533, 1) := by
  unfold dec
  rcases h with h | ⟨lo, hi, need, hc, h⟩
  · rw [if_neg (by omega)]
    split
    · rw [if_neg (by omega)]
    · split
      · omega
      · split
        · rw [if_neg (by omega)]
        · rfl
  · unfold Cls at hc
    rw [if_neg (by omega)]
    split
    · omega
    · split
      · rw [if_neg (by omega)]
      · split
        · rw [if_neg (by omega)]
        · rfl

theorem dec_fine (n i b0 b1 b2 b3 : Nat) (lo hi need : Int) (hc : Cls b0 lo hi need) (hn : i + need ≤ n) (h1 : lo ≤ b1 ∧ b1 ≤ hi)
    (h2 : 3 ≤ need → 128 ≤ b2 ∧ b2 ≤ 191) (h3 : 4 ≤ need → 128 ≤ b3 ∧ b3 ≤ 191) :
    ((dec n i b0 b1 b2 b3).2 : Int) = need ∧ (11904 ≤ (dec n i b0 b1 b2 b3).1 ↔ (need = 4 ∨ (need = 3 ∧ (226 < b0 ∨ (b0 = 226 ∧ 186 ≤ b1))))) := by
  unfold Cls at hc
  unfold dec
  rw [if_neg (by omega)]
  by_cases n2 : need = 2
  · rw [if_pos (by omega), if_pos (by omega)]
    constructor
    · simp; omega
    · simp only; omega
  · rw [if_neg (by omega)]
    by_cases n3 : need = 3
    · rw [if_pos (by omega), if_pos (by omega)]
      constructor
      · simp; omega
      · simp only; omega
    · rw [if_neg (by omega), if_pos (by omega), if_pos (by omega)]
      constructor
      · simp; omega
      · simp only; omega

theorem seq_one (s : ByteArray) (i : Nat) (h : i < s.size) (h0 : bt s i < 128) : SeqOk s i 1 := by
  refine Or.inr ⟨by omega, ?_, by omega, ?_⟩
  · rw [decode_eq]; unfold dec; rw [if_pos h0]
  · rw [decode_eq]; unfold dec; rw [if_pos h0]; simp only; omega

theorem seq_err (s : ByteArray) (i : Nat) (h0 : 128 ≤ bt s i) (h : (bt s i < 194 ∨ 244 < bt s i) ∨ ∃ lo hi need : Int, Cls (bt s i) lo hi need ∧
    ((s.size : Int) < i + need ∨ ((bt s (i + 1) : Int) < lo ∨ hi < bt s (i + 1)) ∨ (3 ≤ need ∧ (bt s (i + 2) < 128 ∨ 191 < bt s (i + 2))) ∨ (4 ≤ need ∧ (bt s (i + 3) < 128 ∨ 191 < bt s (i + 3))))) :
    SeqOk s i 0 := by
  refine Or.inl ⟨rfl, ?_⟩
  rw [decode_eq]
  exact dec_err _ _ _ _ _ _ h0 h

theorem seq_fine (s : ByteArray) (i k : Nat) (lo hi : Int) (hc : Cls (bt s i) lo hi k) (hn : i + k ≤ s.size) (h1 : lo ≤ bt s (i + 1) ∧ bt s (i + 1) ≤ hi)
    (h2 : 3 ≤ k → 128 ≤ bt s (i + 2) ∧ bt s (i + 2) ≤ 191) (h3 : 4 ≤ k → 128 ≤ bt s (i + 3) ∧ bt s (i + 3) ≤ 191) : SeqOk s i k := by
  have := dec_fine s.size i (bt s i) (bt s (i + 1)) (bt s (i + 2)) (bt s (i + 3)) lo hi k hc (by omega) h1 (by omega) (by omega)
  rw [← decode_eq] at this
  obtain ⟨a, b⟩ := this
  refine Or.inr ⟨?_, by omega, hn, ?_⟩
  · unfold Cls at hc; omega
  · rw [b]; omega

/-- The width from place 'pos' on, gathered in 'acc'; 'b': fuel. -/
def wid (s : ByteArray) : Nat → Nat → Nat → Nat
  | 0, _, acc => acc
  | b + 1, pos, acc => if pos < s.size then wid s b (pos + (Utf8.decode s pos).2) (acc + if 11904 ≤ (Utf8.decode s pos).1 then 2 else 1) else acc

theorem wid_end (s : ByteArray) (b pos acc : Nat) (h : ¬ pos < s.size) : wid s b pos acc = acc := by
  cases b with
  | zero => rfl
  | succ b => simp [wid, h]

theorem wid_step (s : ByteArray) (b pos acc : Nat) (h : pos < s.size) (hb : s.size ≤ pos + b) :
    ∃ b', b = b' + 1 ∧ wid s b pos acc = wid s b' (pos + (Utf8.decode s pos).2) (acc + if 11904 ≤ (Utf8.decode s pos).1 then 2 else 1) := by
  cases b with
  | zero => omega
  | succ b => exact ⟨b, rfl, by simp [wid, h]⟩

theorem dec_two (n i b0 b1 b2 b3 : Nat) (h : i < n) : 1 ≤ (dec n i b0 b1 b2 b3).2 ∧ i + (dec n i b0 b1 b2 b3).2 ≤ n := by
  unfold dec
  repeat' split
  all_goals simp
  all_goals omega

theorem decode_two (s : ByteArray) (i : Nat) (h : i < s.size) : 1 ≤ (Utf8.decode s i).2 ∧ i + (Utf8.decode s i).2 ≤ s.size := by
  rw [decode_eq]; exact dec_two _ _ _ _ _ _ h
end Go.Proofs.Qxb6602721a
