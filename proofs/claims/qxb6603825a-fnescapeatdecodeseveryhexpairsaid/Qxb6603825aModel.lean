import Derived.Test.Qxb6603825aEscAt
namespace Go.Proofs.Qxb6603825a
open Go.RowKit

/-- The digit d in lower case, in upper case. -/
def lowB (d : Nat) : Int := if d < 10 then 48 + d else 87 + d
def upB (d : Nat) : Int := if d < 10 then 48 + d else 55 + d
def dgB (c : Int) (d : Nat) : Bool := hx c && decide (hv c = d)

theorem low_at (d : Nat) (h : d < ({ data := #[48, 49, 50, 51, 52, 53, 54, 55, 56, 57, 97, 98, 99, 100, 101, 102] } : ByteArray).size) :
    ((({ data := #[48, 49, 50, 51, 52, 53, 54, 55, 56, 57, 97, 98, 99, 100, 101, 102] } : ByteArray)[d]'h).toNat : Int) = lowB d := by
  have h' : d < 16 := h
  have : d = 0 ∨ d = 1 ∨ d = 2 ∨ d = 3 ∨ d = 4 ∨ d = 5 ∨ d = 6 ∨ d = 7 ∨ d = 8 ∨ d = 9 ∨ d = 10 ∨ d = 11 ∨ d = 12 ∨ d = 13 ∨ d = 14 ∨ d = 15 := by omega
  rcases this with rfl | rfl | rfl | rfl | rfl | rfl | rfl | rfl | rfl | rfl | rfl | rfl | rfl | rfl | rfl | rfl <;> rfl
theorem up_at (d : Nat) (h : d < ({ data := #[48, 49, 50, 51, 52, 53, 54, 55, 56, 57, 65, 66, 67, 68, 69, 70] } : ByteArray).size) :
    ((({ data := #[48, 49, 50, 51, 52, 53, 54, 55, 56, 57, 65, 66, 67, 68, 69, 70] } : ByteArray)[d]'h).toNat : Int) = upB d := by
  have h' : d < 16 := h
  have : d = 0 ∨ d = 1 ∨ d = 2 ∨ d = 3 ∨ d = 4 ∨ d = 5 ∨ d = 6 ∨ d = 7 ∨ d = 8 ∨ d = 9 ∨ d = 10 ∨ d = 11 ∨ d = 12 ∨ d = 13 ∨ d = 14 ∨ d = 15 := by omega
  rcases this with rfl | rfl | rfl | rfl | rfl | rfl | rfl | rfl | rfl | rfl | rfl | rfl | rfl | rfl | rfl | rfl <;> rfl

theorem dg_eq (c : Int) (d : Nat) (hd : d < 16) : dgB c d = decide (c = lowB d ∨ c = upB d) := by
  unfold dgB hx hv lowB upB
  rw [Bool.eq_iff_iff]
  simp only [Bool.and_eq_true, decide_eq_true_eq]
  split <;> split <;> (try split) <;> (try split) <;> omega

set_option maxHeartbeats 2000000 in
set_option maxRecDepth 1000000 in
theorem digitIs_any (c : Int) (d : Nat) (w : World) (hd : d < 16) :
    Calls Try.prog 20 #[.int .u8 c, .int .i64 d] w fun e w' => e = .returned (.bool (dgB c d)) ∧ w' = w := by
  have hd0 : (0 : Int) ≤ (d : Int) := by omega
  have hd1 : (d : Int) < 16 := by omega
  have s1 : ({ data := #[48, 49, 50, 51, 52, 53, 54, 55, 56, 57, 97, 98, 99, 100, 101, 102] } : ByteArray).size = 16 := rfl
  have s2 : ({ data := #[48, 49, 50, 51, 52, 53, 54, 55, 56, 57, 65, 66, 67, 68, 69, 70] } : ByteArray).size = 16 := rfl
  have l1 := low_at d (by rw [s1]; exact hd)
  have l2 := up_at d (by rw [s2]; exact hd)
  have he := dg_eq c d hd
  by_cases a : (c == lowB d) = true
  · have e : dgB c d = true := by rw [he]; simp at a; simp [a]
    rw [e]
    clear e he
    go_enter Try.func20, Try.ntmps20
    go_wp2
    go_ret
    exact ⟨rfl, rfl⟩
  · have a' : (c == lowB d) = false := by simpa using a
    by_cases b : (c == upB d) = true
    · have e : dgB c d = true := by rw [he]; simp at b; simp [b]
      rw [e]
      clear e he
      go_enter Try.func20, Try.ntmps20
      go_wp2
      go_ret
      exact ⟨rfl, rfl⟩
    · have b' : (c == upB d) = false := by simpa using b
      have e : dgB c d = false := by rw [he]; simp at a b; simp [a, b]
      rw [e]
      clear e he
      go_enter Try.func20, Try.ntmps20
      go_wp2
      go_ret
      exact ⟨rfl, rfl⟩
end Go.Proofs.Qxb6603825a
