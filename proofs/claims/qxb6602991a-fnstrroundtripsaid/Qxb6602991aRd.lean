import Derived.Test.Qxb6602991aEnc
import Derived.Deep.RegionHeld3
namespace Go.Proofs.Qxb6602991a
open Go.RowKit

/-- The reader's two fields. -/
def rf (g n cap p : Nat) (i : Nat) : Value := if i = 0 then .slice (some ⟨g, 0, none⟩) n cap else .int .i64 p

/-- The reader in block b: its document reads as L, it stands at p. -/
structure Rd (w : World) (b g n cap p : Nat) (L : List Int) : Prop where
  row : w.rowIs b 34 2 (rf g n cap p)
  doc : Bs w b (some ⟨g, 0, none⟩) L
  len : L.length = n
  big : n ≤ 9000000

theorem Rd.drew {w : World} {b g n cap p : Nat} {L : List Int} (h : Rd w b g n cap p L) : Rd w.drew b g n cap p L := ⟨h.row, h.doc, h.len, h.big⟩
theorem Rd.c0 {w : World} {b g n cap p : Nat} {L : List Int} (h : Rd w b g n cap p L) : w.cell? ⟨b, 0, none⟩ = some (.slice (some ⟨g, 0, none⟩) n cap) := h.row.cell (by omega)
theorem Rd.c1 {w : World} {b g n cap p : Nat} {L : List Int} (h : Rd w b g n cap p L) : w.cell? ⟨b, 1, none⟩ = some (.int .i64 p) := h.row.cell (by omega)
theorem Rd.fz {w : World} {b g n cap p : Nat} {L : List Int} (h : Rd w b g n cap p L) : w.frozen? ⟨b, 1, none⟩ = false := h.row.frozen 1
theorem Rd.dc {w : World} {b g n cap p : Nat} {L : List Int} (h : Rd w b g n cap p L) {i : Nat} (hi : i < n) : w.cell? ⟨g, i, none⟩ = some (.int .u8 (nth L i)) := by
  rcases h.doc with ⟨h', _⟩ | ⟨x, hx, h'⟩
  · cases h'
  · cases hx
    have := (h' i (by rw [h.len]; exact hi)).2
    rw [show (Addr.add ⟨g, 0, none⟩ i) = ⟨g, i, none⟩ by simp [Addr.add]; intro h; rw [h]] at this
    exact this

/-- The reader moved on. -/
theorem Rd.go {w : World} {b g n cap p : Nat} {L : List Int} (h : Rd w b g n cap p L) (p' : Nat) (P' : Int) (hp : P' = p') : Rd (w.setCell ⟨b, 1, none⟩ (.int .i64 P')) b g n cap p' L := by
  subst hp
  refine ⟨(h.row.set 1 _).congr (fun i hi => ?_), h.doc.below ((Below.refl b w).setCell (p := ⟨b, 1, none⟩) (Nat.le_refl _) _), h.len, h.big⟩
  have : i = 0 ∨ i = 1 := by omega
  rcases this with rfl | rfl <;> simp [rf]

theorem Rd.bel {w w0 : World} {b : Nat} (h : Below b w0 w) (v : Value) : Below b w0 (w.setCell ⟨b, 1, none⟩ v) := h.setCell (p := ⟨b, 1, none⟩) (Nat.le_refl _) v

/-- A call of the reader that answers true and leaves it at p'. -/
def Rt (w : World) (b g n cap p' : Nat) (L : List Int) (e : Ending) (w' : World) : Prop := e = .returned (.bool true) ∧ Rd w' b g n cap p' L ∧ Below b w w'

set_option maxHeartbeats 2000000 in
set_option maxRecDepth 1000000 in
theorem next_any (b g n cap p : Nat) (L : List Int) (c : Int) (w : World) (h : Rd w b g n cap p L) (hp : p < n) (hc : nth L p = c) :
    Calls Try.prog 21 #[.pointer (some ⟨b, 0, none⟩), .int .u8 c] w (Rt w b g n cap (p + 1) L) := by
  have c0 := h.c0
  have c1 := h.c1
  have fz := h.fz
  have cd := h.dc hp
  rw [hc] at cd
  have big := h.big
  have hpI : (p : Int) < n := by omega
  have hpb : (p : Int) ≤ 9000000 := by omega
  have hp0 : (0 : Int) ≤ (p : Int) := by omega
  have HR := hmk h
  clear h hc
  go_enter Try.func21, Try.ntmps21
  go_wp2
  go_region
  go_wp2
  go_ret
  exact ⟨rfl, HR.out.drew.go (p + 1) _ (by omega), Rd.bel (Below.refl _ _).drew _⟩

/-- Is the byte a hexadecimal digit in lower case? -/
def Hx (c : Int) : Prop := (48 ≤ c ∧ c ≤ 57) ∨ (97 ≤ c ∧ c ≤ 102)

set_option maxHeartbeats 2000000 in
set_option maxRecDepth 1000000 in
theorem isHex_any (c : Int) (w : World) (h : Hx c) : Calls Try.prog 20 #[.int .u8 c] w fun e w' => e = .returned (.bool true) ∧ w' = w := by
  rcases h with ⟨h1, h2⟩ | ⟨h1, h2⟩
  · go_enter Try.func20, Try.ntmps20
    go_wp2
    go_ret
    exact ⟨rfl, rfl⟩
  · have h3 : 57 < c := by omega
    go_enter Try.func20, Try.ntmps20
    go_wp2
    go_ret
    exact ⟨rfl, rfl⟩

set_option maxHeartbeats 2000000 in
set_option maxRecDepth 1000000 in
theorem escape_plain (b g n cap p : Nat) (L : List Int) (w : World) (h : Rd w b g n cap p L) (hp : p < n) (hc : nth L p = 34 ∨ nth L p = 92) :
    Calls Try.prog 18 #[.pointer (some ⟨b, 0, none⟩)] w (Rt w b g n cap (p + 1) L) := by
  have c0 := h.c0
  have c1 := h.c1
  have fz := h.fz
  have cd := h.dc hp
  have big := h.big
  have hpI : (p : Int) < n := by omega
  have hpb : (p : Int) ≤ 9000000 := by omega
  have hp0 : (0 : Int) ≤ (p : Int) := by omega
  have hpn : ((p : Int) == (n : Int)) = false := by simp; omega
  have HR := hmk h
  clear h
  rcases hc with hc | hc
  all_goals
    rw [hc] at cd
    clear hc
    go_enter Try.func18, Try.ntmps18
    go_wp2
    go_region
    go_wp2
    go_region
    go_wp2
    go_ret
    exact ⟨rfl, HR.out.drew.drew.go (p + 1) _ (by omega), Rd.bel (Below.refl _ _).drew.drew _⟩
end Go.Proofs.Qxb6602991a
