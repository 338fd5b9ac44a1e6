import Derived.Test.Qxb6603825aRows
import Derived.WalkKit
import Derived.ProofKit
import Derived.WalkLawsBesides
import Derived.Laws.RangeAny
import Derived.Laws.BitsAllLaws
namespace Go.Proofs.Qxb6603825a
open Go.RowKit

theorem hmk {p : Prop} (h : p) : Hid p := h

/-- Is the byte a hexadecimal digit? -/
def hx (c : Int) : Bool := decide ((48 ≤ c ∧ c ≤ 57) ∨ (97 ≤ c ∧ c ≤ 102) ∨ (65 ≤ c ∧ c ≤ 70))
/-- Its value, 0 where it is none. -/
def hv (c : Int) : Int := if 48 ≤ c ∧ c ≤ 57 then c - 48 else if 97 ≤ c ∧ c ≤ 102 then c - 87 else if 65 ≤ c ∧ c ≤ 70 then c - 55 else 0

theorem hv_bd (c : Int) : 0 ≤ hv c ∧ hv c ≤ 15 := by unfold hv; split <;> (try split) <;> (try split) <;> omega

/-- The byte at place j as a number (0 beyond the end). -/
def bt (s : ByteArray) (j : Nat) : Int := ((s.get! j).toNat : Int)
theorem bt_eq {s : ByteArray} {j : Nat} (h : j < s.size) : ((s[j]'h).toNat : Int) = bt s j := by
  unfold bt
  rw [show s.get! j = s[j]'h from get_at s j h]
theorem bt_bd (s : ByteArray) (j : Nat) : 0 ≤ bt s j ∧ bt s j ≤ 255 := by
  unfold bt; have := (s.get! j).toNat_lt; omega

theorem ret2 {a b : Int} {c d : Int} (h1 : a = b) (h2 : c = d) : Ending.returned (.tuple #[.int .u8 a, .int .i64 c]) = .returned (.tuple #[.int .u8 b, .int .i64 d]) := by rw [h1, h2]

set_option maxHeartbeats 1000000 in
set_option maxRecDepth 1000000 in
theorem fromHex_any (c : Int) (w : World) (h0 : 0 ≤ c) (h1 : c ≤ 255) :
    Calls Try.prog 22 #[.int .u8 c] w fun e w' => e = .returned (.tuple #[.int .u8 (hv c), .bool (hx c)]) ∧ w' = w := by
  by_cases a : 48 ≤ c ∧ c ≤ 57
  · have e1 : hv c = c - 48 := by unfold hv; rw [if_pos a]
    have e2 : hx c = true := by unfold hx; simp; omega
    rw [e1, e2]
    clear e1 e2
    obtain ⟨a1, a2⟩ := a
    go_enter Try.func22, Try.ntmps22
    go_wp2
    go_ret2
    exact ⟨rfl, rfl⟩
  · by_cases b : 97 ≤ c ∧ c ≤ 102
    · have e1 : hv c = c - 97 + 10 := by unfold hv; rw [if_neg a, if_pos b]; omega
      have e2 : hx c = true := by unfold hx; simp; omega
      rw [e1, e2]
      clear e1 e2 a
      obtain ⟨a1, a2⟩ := b
      have a3 : 57 < c := by omega
      go_enter Try.func22, Try.ntmps22
      go_wp2
      go_ret2
      exact ⟨rfl, rfl⟩
    · by_cases d : 65 ≤ c ∧ c ≤ 70
      · have e1 : hv c = c - 65 + 10 := by unfold hv; rw [if_neg a, if_neg b, if_pos d]; omega
        have e2 : hx c = true := by unfold hx; simp; omega
        rw [e1, e2]
        clear e1 e2 a b
        obtain ⟨a1, a2⟩ := d
        have a3 : 57 < c := by omega
        have a4 : c < 97 := by omega
        go_enter Try.func22, Try.ntmps22
        go_wp2
        go_ret2
        exact ⟨rfl, rfl⟩
      · have e1 : hv c = 0 := by unfold hv; rw [if_neg a, if_neg b, if_neg d]
        have e2 : hx c = false := by unfold hx; simp; omega
        rw [e1, e2]
        clear e1 e2
        by_cases k1 : c < 48
        · go_enter Try.func22, Try.ntmps22
          go_wp2
          go_ret2
          exact ⟨rfl, rfl⟩
        · by_cases k2 : c < 65
          · have a3 : 57 < c := by omega
            go_enter Try.func22, Try.ntmps22
            go_wp2
            go_ret2
            exact ⟨rfl, rfl⟩
          · by_cases k3 : c < 97
            · have a3 : 70 < c := by omega
              go_enter Try.func22, Try.ntmps22
              go_wp2
              go_ret2
              exact ⟨rfl, rfl⟩
            · have a3 : 102 < c := by omega
              go_enter Try.func22, Try.ntmps22
              go_wp2
              go_ret2
              exact ⟨rfl, rfl⟩

/-- The answer of 'escapeAt'. -/
def escB (s : ByteArray) : Int × Int :=
  if s.size < 2 ∨ bt s 0 ≠ 92 then (0, 0)
  else if bt s 1 = 34 ∨ bt s 1 = 92 then (bt s 1, 2)
  else if bt s 1 = 120 then (if s.size < 4 then (0, 0) else if hx (bt s 2) && hx (bt s 3) then (hv (bt s 2) * 16 + hv (bt s 3), 4) else (0, 0))
  else (0, 0)

theorem or16 (a b : Int) (ha : 0 ≤ a ∧ a ≤ 15) (hb : 0 ≤ b ∧ b ≤ 15) : Go.bits BinOp.or IntKind.u8 (a * 16) b = a * 16 + b := by
  rw [u8_or (a * 16) b (by omega) (by omega) (by omega) (by omega)]
  have e : (a * 16).toNat = 2 ^ 4 * a.toNat := by omega
  rw [e, ← Nat.two_pow_add_eq_or_of_lt (by omega)]
  omega
end Go.Proofs.Qxb6603825a
