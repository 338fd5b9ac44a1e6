import Derived.Test.Qxb6602721aWidthGood
namespace Go.Proofs.Qxb6602721a
open Go.RowKit

theorem seq_any (s : ByteArray) (i : Nat) (w : World) (hs : (s.size : Int) ≤ 1048576) (hi : i < s.size) :
    Calls Try.prog 17 #[.string s, .int .i64 i] w fun e w' => ∃ k : Nat, e = .returned (.int .i64 k) ∧ w' = w ∧ SeqOk s i k := by
  by_cases h : (s[i].toNat : Int) < 194 ∨ 244 < (s[i].toNat : Int)
  · exact seq_small s i w hi h
  · have hc : ∃ (lo hh : Int) (n : Nat), Cls (s[i].toNat : Int) lo hh n := by
      unfold Cls
      by_cases h1 : (s[i].toNat : Int) ≤ 223
      · exact ⟨128, 191, 2, by omega⟩
      · by_cases h2 : (s[i].toNat : Int) = 224
        · exact ⟨160, 191, 3, by omega⟩
        · by_cases h3 : (s[i].toNat : Int) = 237
          · exact ⟨128, 159, 3, by omega⟩
          · by_cases h4 : (s[i].toNat : Int) ≤ 239
            · exact ⟨128, 191, 3, by omega⟩
            · by_cases h5 : (s[i].toNat : Int) = 240
              · exact ⟨144, 191, 4, by omega⟩
              · by_cases h6 : (s[i].toNat : Int) = 244
                · exact ⟨128, 143, 4, by omega⟩
                · exact ⟨128, 191, 4, by omega⟩
    obtain ⟨lo, hh, n, hc⟩ := hc
    have HC : Hid (Cls (bt s i) lo hh n) := by rw [← seq_bt hi]; exact hc
    have HL : Hid (128 ≤ bt s i) := by have := HC.out; unfold Cls at this; show 128 ≤ bt s i; omega
    by_cases hsz : (i : Int) + n ≤ s.size
    · have h1 : i + 1 < s.size := by unfold Cls at hc; omega
      by_cases hg : lo ≤ (s[i + 1].toNat : Int) ∧ (s[i + 1].toNat : Int) ≤ hh
      · exact seq_good s i w hs hi lo hh n hc HC HL hsz h1 hg
      · exact seq_bad s i w hs hi lo hh n hc HC HL hsz h1 (by omega)
    · exact seq_short s i w hs hi lo hh n hc HC HL hsz

set_option maxRecDepth 100000 in
set_option maxHeartbeats 1000000 in
theorem width_any (s : ByteArray) (w : World) (hs : (s.size : Int) ≤ 1048576) :
    Calls Try.prog 16 #[.string s] w fun e w' => e = .returned (.int .i64 (wid s s.size 0 0 : Nat)) ∧ ∃ pos, w' = w.iter s pos := by
  go_enter Try.func16, Try.ntmps16
  go_wp2
  go_loopw [3] (fun n w' => ∃ (pos b acc : Nat), w' = w.iter s pos ∧ n = .int .i64 acc ∧ Hid (wid s b pos acc = wid s s.size 0 0) ∧ s.size ≤ pos + b ∧ pos ≤ s.size ∧ acc ≤ 2 * pos) (fun _ w' => s.size - w'.iterPos w.heap.size)
  case atStart => exact ⟨0, s.size, 0, rfl, rfl, rfl, by omega, by omega, by omega⟩
  case round =>
    obtain ⟨pos, b, acc, rfl, rfl, HC, hb, hps, hacc⟩ := hrel
    by_cases hp : pos < s.size
    · have hnx : ∀ ty, (Instr.next (.pointer (some ⟨w.heap.size, 0, none⟩)) true ty).run Try.prog (w.iter s pos) = _ := fun ty => run_next_any w s pos ty hp
      have hd := decode_two s pos hp
      obtain ⟨b', hb', e⟩ := wid_step s b pos acc hp hb
      have HE : Hid (wid s b pos acc = wid s b' (pos + (Utf8.decode s pos).2) (acc + if 11904 ≤ (Utf8.decode s pos).1 then 2 else 1)) := e
      clear e
      by_cases hr : (11904 : Int) ≤ ((Utf8.decode s pos).1 : Int)
      · go_wp2
        go_roundw
        case rel => exact ⟨pos + (Utf8.decode s pos).2, b', acc + 2, rfl, by go_num, by have := HE.out; rw [if_pos (by omega)] at this; exact this.symm.trans HC.out, by omega, by omega, by omega⟩
        case measure => simp; omega
      · go_wp2
        go_roundw
        case rel => exact ⟨pos + (Utf8.decode s pos).2, b', acc + 1, rfl, by go_num, by have := HE.out; rw [if_neg (by omega)] at this; exact this.symm.trans HC.out, by omega, by omega, by omega⟩
        case measure => simp; omega
    · have hnx : ∀ ty, (Instr.next (.pointer (some ⟨w.heap.size, 0, none⟩)) true ty).run Try.prog (w.iter s pos) = _ := fun ty => run_next_end w s pos ty hp
      go_wp2
      go_ret
      exact ⟨ret_int (by rw [← HC.out, wid_end s b pos acc hp]), _, rfl⟩

theorem seqOk_le {s : ByteArray} {i k : Nat} (h : SeqOk s i k) (hi : i < s.size) : (i : Int) + k ≤ s.size := by
  unfold SeqOk at h; omega
theorem seqOk_four {s : ByteArray} {i k : Nat} (h : SeqOk s i k) : k = 3 → (i : Int) + 1 < s.size := by
  unfold SeqOk at h; omega
theorem seqOk_dec {s : ByteArray} {i k : Nat} (h : SeqOk s i k) :
    (k = 0 → (Utf8.decode s i).2 = 1) ∧ (0 < k → (Utf8.decode s i).2 = k) ∧
    (11904 ≤ (Utf8.decode s i).1 ↔ (k = 0 ∨ k = 4 ∨ (k = 3 ∧ (226 < bt s i ∨ (bt s i = 226 ∧ 186 ≤ bt s (i + 1)))))) := by
  unfold SeqOk at h
  rcases h with ⟨rfl, h⟩ | ⟨a, b, c, d⟩
  · rw [h]; simp
  · omega
theorem beq0 {k : Nat} {b : Bool} (h : ((k : Int) == 0) = b) : (b = true → k = 0) ∧ (b = false → 0 < k) := by
  subst h; constructor
  · intro h; simpa using h
  · intro h; simp at h; omega
theorem int_eq {k : IntKind} {a b : Int} (h : a = b) : Value.int k a = Value.int k b := by rw [h]

set_option maxRecDepth 100000 in
set_option maxHeartbeats 1000000 in
theorem model_any (s : ByteArray) (w : World) (hs : (s.size : Int) ≤ 1048576) :
    Calls Try.prog 12 #[.string s] w fun e w' => e = .returned (.int .i64 (wid s s.size 0 0 : Nat)) ∧ w' = w := by
  go_enter Try.func12, Try.ntmps12
  go_wp2
  go_loop [3, 4] (fun n i => ∃ (pos b acc : Nat), i = .int .i64 pos ∧ n = .int .i64 acc ∧ Hid (wid s b pos acc = wid s s.size 0 0) ∧ s.size ≤ pos + b ∧ pos ≤ s.size ∧ acc ≤ 2 * pos) (fun _ i => s.size - (intOf i).toNat)
  case atStart => exact ⟨0, s.size, 0, rfl, rfl, rfl, by omega, by omega, by omega⟩
  case round =>
    obtain ⟨pos, b, acc, rfl, rfl, HC, hb, hps, hacc⟩ := hrel
    by_cases hp : pos < s.size
    · have hd := decode_two s pos hp
      obtain ⟨b', hb', e⟩ := wid_step s b pos acc hp hb
      have HE : Hid (wid s b pos acc = wid s b' (pos + (Utf8.decode s pos).2) (acc + if 11904 ≤ (Utf8.decode s pos).1 then 2 else 1)) := e
      clear e
      go_wp2_with (go_at_call 17; refine (seq_any s pos _ hs hp).mono ?_; rintro e w' ⟨k, rfl, rfl, hk⟩; have hkl := seqOk_le hk (by omega); have hk4 := seqOk_four hk)
      all_goals
        have q0 := seq_bt hp
        have hh := seqOk_dec hk
        have q1 : (pos : Int) + 1 < s.size → ∀ h : pos + 1 < s.size, ((s[pos + 1]'h).toNat : Int) = (bt s (pos + 1) : Int) := fun _ h => seq_bt h
        have h0 := beq0 (k := k) (by assumption)
        simp at h0
        go_round
        case rel => exact ⟨pos + (Utf8.decode s pos).2, b', acc + (if 11904 ≤ (Utf8.decode s pos).1 then 2 else 1), int_eq (by clear HC HE; omega), int_eq (by clear HC HE; first | (rw [if_pos (by omega)]; omega) | (rw [if_neg (by omega)]; omega) | (have := q1 (by omega) (by omega); first | (rw [if_pos (by omega)]; omega) | (rw [if_neg (by omega)]; omega))), HE.out.symm.trans HC.out, by omega, by omega, by split <;> omega⟩
        case measure => simp [intOf]; omega
    · go_wp2
      go_ret
      exact ⟨ret_int (by rw [← HC.out, wid_end s b pos acc hp]), rfl⟩
end Go.Proofs.Qxb6602721a
