import Derived.Deep.OwnRows
import Derived.Laws.BytesString
import Derived.Laws.Cells
namespace Go.Proofs.Qxb6602721a.Sheet
open Go

/-- The letter of the digit k, base 26. -/
def ch (k : Nat) : UInt8 := UInt8.ofNat (65 + k % 26)

/-- A column's name, by the number n of the column counted from 1; f: fuel. -/
def nm : Nat → Nat → List UInt8
  | 0, _ => []
  | f + 1, n => if n = 0 then [] else nm f ((n - 1) / 26) ++ [ch (n - 1)]

/-- The name of column i, counted from 0. -/
def name (i : Nat) : List UInt8 := nm (i + 1) (i + 1)

theorem nm_zero (f : Nat) : nm f 0 = [] := by cases f <;> simp [nm]

theorem nm_succ (f n : Nat) : nm (f + 1) (n + 1) = nm f (n / 26) ++ [ch n] := by simp [nm]

theorem nm_fuel : ∀ (f g n : Nat), n ≤ f → n ≤ g → nm f n = nm g n := by
  intro f
  induction f with
  | zero => intro g n h1 h2; obtain rfl : n = 0 := by omega
            rw [nm_zero, nm_zero]
  | succ f ih =>
    intro g n h1 h2
    cases n with
    | zero => rw [nm_zero, nm_zero]
    | succ n =>
      cases g with
      | zero => omega
      | succ g => rw [nm_succ, nm_succ, ih g (n / 26) (by omega) (by omega)]

/-- The names by the number counted from 1. -/
def nmb (n : Nat) : List UInt8 := nm n n

theorem nmb_zero : nmb 0 = [] := rfl
theorem nmb_succ (n : Nat) : nmb (n + 1) = nmb (n / 26) ++ [ch n] := by
  unfold nmb
  rw [nm_succ, nm_fuel n (n / 26) (n / 26) (by omega) (by omega)]
theorem name_eq (i : Nat) : name i = nmb (i + 1) := rfl

theorem name1 (i : Nat) (h : i < 26) : name i = [ch i] := by
  rw [name_eq, nmb_succ, show i / 26 = 0 by omega, nmb_zero]; rfl

theorem name2 (i : Nat) (h1 : 26 ≤ i) (h2 : i < 702) : name i = [ch ((i - 26) / 26), ch (i - 26)] := by
  rw [name_eq, nmb_succ, show i / 26 = (i - 26) / 26 + 1 by omega, nmb_succ, show (i - 26) / 26 / 26 = 0 by omega, nmb_zero]
  have e : ch i = ch (i - 26) := by unfold ch; rw [show (i - 26) % 26 = i % 26 by omega]
  rw [e]; rfl

theorem name3 (i : Nat) (h1 : 702 ≤ i) (h2 : i < 18278) : name i = [ch ((i - 702) / 26 / 26), ch ((i - 702) / 26), ch (i - 702)] := by
  rw [name_eq, nmb_succ, show i / 26 = ((i - 702) / 26 + 26) + 1 by omega, nmb_succ, show ((i - 702) / 26 + 26) / 26 = (i - 702) / 26 / 26 + 1 by omega, nmb_succ, show (i - 702) / 26 / 26 / 26 = 0 by omega, nmb_zero]
  have e1 : ch i = ch (i - 702) := by unfold ch; rw [show (i - 702) % 26 = i % 26 by omega]
  have e2 : ch ((i - 702) / 26 + 26) = ch ((i - 702) / 26) := by unfold ch; rw [show ((i - 702) / 26 + 26) % 26 = (i - 702) / 26 % 26 by omega]
  rw [e1, e2]; rfl

theorem name4 (i : Nat) (h1 : 18278 ≤ i) (h2 : i < 475254) : name i = [ch ((i - 18278) / 26 / 26 / 26), ch ((i - 18278) / 26 / 26), ch ((i - 18278) / 26), ch (i - 18278)] := by
  rw [name_eq, nmb_succ, show i / 26 = ((i - 18278) / 26 + 702) + 1 by omega, nmb_succ, show ((i - 18278) / 26 + 702) / 26 = ((i - 18278) / 26 / 26 + 26) + 1 by omega, nmb_succ,
    show ((i - 18278) / 26 / 26 + 26) / 26 = (i - 18278) / 26 / 26 / 26 + 1 by omega, nmb_succ, show (i - 18278) / 26 / 26 / 26 / 26 = 0 by omega, nmb_zero]
  have e1 : ch i = ch (i - 18278) := by unfold ch; rw [show (i - 18278) % 26 = i % 26 by omega]
  have e2 : ch ((i - 18278) / 26 + 702) = ch ((i - 18278) / 26) := by unfold ch; rw [show ((i - 18278) / 26 + 702) % 26 = (i - 18278) / 26 % 26 by omega]
  have e3 : ch ((i - 18278) / 26 / 26 + 26) = ch ((i - 18278) / 26 / 26) := by unfold ch; rw [show ((i - 18278) / 26 / 26 + 26) % 26 = (i - 18278) / 26 / 26 % 26 by omega]
  rw [e1, e2, e3]; rfl

/-- A list of bytes as a Go string. -/
def st (l : List UInt8) : ByteArray := ⟨l.toArray⟩

theorem st_app (a b : List UInt8) : st a ++ st b = st (a ++ b) := by
  apply ByteArray.ext
  simp [st]

theorem st_ne {a b : List UInt8} (h : a = b) : st a = st b := by rw [h]

theorem encode_ch (n : Nat) : Utf8.encode (65 + ((n % 26 : Nat) : Int)) = st [ch n] := by
  have hv : Utf8.valid (65 + ((n % 26 : Nat) : Int)) = true := by unfold Utf8.valid; simp; omega
  unfold Utf8.encode
  rw [hv]
  have e : (65 + ((n % 26 : Nat) : Int)).toNat = 65 + n % 26 := by omega
  simp only [if_true, e]
  rw [if_pos (by omega)]
  rfl

/-! ### 'string(b)' of a row of bytes -/
theorem foldl_push (ns : List Int) : ∀ s : ByteArray, (ns.foldl (fun r n => r.push (UInt8.ofNat n.toNat)) s).data.toList = s.data.toList ++ ns.map (fun n => UInt8.ofNat n.toNat) := by
  induction ns with
  | nil => intro s; simp
  | cons n ns ih => intro s; rw [List.foldl_cons, ih]; simp [ByteArray.push]

theorem run_string_row {P : Program} (w : World) (src dst e : TypeId) (b n c : Nat) (F : Nat → Int) (l : List UInt8)
    (hs : P.underlying src = some (.slice e)) (he : P.underlying e = some (.int .u8)) (hd : P.underlying dst = some .string)
    (hrow : ∀ j, j < n → w.cell? ⟨b, j, none⟩ = some (.int .u8 (F j))) (hl : l = (List.range n).map (fun j => UInt8.ofNat (F j).toNat)) :
    (convert src dst (.slice (some ⟨b, 0, none⟩) n c)).run P w = .ok (.string (st l)) w := by
  rw [run_convert_bytes_string w src dst e _ n c hs he hd]
  rw [run_bytesToString w ⟨b, 0, none⟩ n c ((List.range n).map F)]
  · congr 2
    apply ByteArray.ext
    apply Array.ext'
    rw [foldl_push, hl]
    simp [st, Function.comp_def]
  · rw [run_loadCells (w := w) (P := P) ⟨b, 0, none⟩ n (fun j => .int .u8 (F j)) (fun j hj => by rw [← hrow j hj, show Addr.add ⟨b, 0, none⟩ j = ⟨b, j, none⟩ by simp [Addr.add]; intro h; rw [h]])]
    simp [Function.comp_def]
end Go.Proofs.Qxb6602721a.Sheet
