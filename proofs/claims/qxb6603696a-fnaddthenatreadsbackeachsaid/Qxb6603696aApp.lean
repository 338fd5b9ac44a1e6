import Derived.Test.Qxb6603696aRows
import Derived.Test.Qxb6603696aBld
import Derived.WalkKit
import Derived.ProofKit
import Derived.WalkLawsBesides
import Derived.WalkSpells
namespace Go.Proofs.Qxb6603696a
open Go.RowKit

/-- The slice type of the builder's field p; its elements' zero value; their bytes. -/
def sty (p : Nat) : TypeId := if p = 4 then 41 else if p = 5 then 42 else 40
def zer (p : Nat) : Value := if p = 4 then .string ByteArray.empty else if p = 5 then .int .u8 0 else .int .u64 0
def byt (p : Nat) : Nat := if p = 4 then 16 else if p = 5 then 1 else 8

theorem und40 : Try.prog.underlying 40 = some (.slice 27) := by kernel_rfl
theorem und41 : Try.prog.underlying 41 = some (.slice 9) := by kernel_rfl
theorem und42 : Try.prog.underlying 42 = some (.slice 46) := by kernel_rfl
theorem inf27 : (Try.prog.info? 27).map (fun i => (i.zero, i.size, i.bytes)) = some (some (.int .u64 0), 1, 8) := by kernel_rfl
theorem inf9 : (Try.prog.info? 9).map (fun i => (i.zero, i.size, i.bytes)) = some (some (.string ByteArray.empty), 1, 16) := by kernel_rfl
theorem inf46 : (Try.prog.info? 46).map (fun i => (i.zero, i.size, i.bytes)) = some (some (.int .u8 0), 1, 1) := by kernel_rfl

theorem und_f (p : Nat) (h1 : 2 ≤ p) (h2 : p < 6) : Try.prog.underlying (sty p) = some (.slice (ety p)) := by
  have : p = 2 ∨ p = 3 ∨ p = 4 ∨ p = 5 := by omega
  rcases this with rfl | rfl | rfl | rfl
  · exact und40
  · exact und40
  · exact und41
  · exact und42
theorem inf_f (p : Nat) (h1 : 2 ≤ p) (h2 : p < 6) : (Try.prog.info? (ety p)).map (fun i => (i.zero, i.size, i.bytes)) = some (some (zer p), 1, byt p) := by
  have : p = 2 ∨ p = 3 ∨ p = 4 ∨ p = 5 := by omega
  rcases this with rfl | rfl | rfl | rfl
  · exact inf27
  · exact inf27
  · exact inf9
  · exact inf46
theorem zer_f (p : Nat) (h1 : 2 ≤ p) (h2 : p < 6) : (zer p).cells = #[zer p] ∧ byt p ≤ 16 := by
  have : p = 2 ∨ p = 3 ∨ p = 4 ∨ p = 5 := by omega
  rcases this with rfl | rfl | rfl | rfl <;> exact ⟨rfl, by decide⟩

/-- An append whose run is known, at the operation. -/
theorem wp_append_run {P : Program} (W : World) {o : Oper} {a : Act} {K : Act → World → Prop} {Q : Exit → Act → World → Prop} (s x : Operand) (t : TypeId)
    (ho : o.op = .call { callee := .builtin .append, args := #[s, x], argTypes := #[t, t] }) (v sx v' : Value) (w1 : World)
    (hrun : (Builtin.append_ #[t, t] o.type #[v, sx]).run P W = .ok v' w1) (hs : a.eval s = v) (hx : a.eval x = sx) (hK : K (a.put o.dst v') w1) : o.wp P a W K Q := by
  unfold Oper.wp execOp
  simp only [ho, resolve, invoke, builtin, Sem.run_bind, Sem.run_pure, Result.andThen_ok, List.map_toArray, List.map_cons, List.map_nil, hs, hx, hrun]
  exact hK

/-- .. at a plain region's list. -/
theorem wpList_append_run {P : Program} (W : World) {ops : Array Oper} {rest : List Oper} {o : Oper} {a : Act} {Q : Exit → Act → World → Prop} (hgd : o.guard = none) (s x : Operand) (t : TypeId)
    (ho : o.op = .call { callee := .builtin .append, args := #[s, x], argTypes := #[t, t] }) (v sx v' : Value) (w1 : World)
    (hrun : (Builtin.append_ #[t, t] o.type #[v, sx]).run P W = .ok v' w1) (hs : a.eval s = v) (hx : a.eval x = sx) (hK : wpList P ops Q rest (a.put o.dst v') w1) : wpList P ops Q (o :: rest) a W :=
  wpList_plain hgd fun _ hK' => wp_append_run W s x t ho v sx v' w1 hrun hs hx (hK' _ _ hK)

/-- .. at a step of a region that draws its order. -/
theorem step_append_run {P : Program} (W : World) {ops : Array Oper} {o : Oper} {a : Act} {K : Act → World → Prop} {Q : Exit → Act → World → Prop} {E : Prop} (hgd : o.guard = none) (s x : Operand) (t : TypeId)
    (ho : o.op = .call { callee := .builtin .append, args := #[s, x], argTypes := #[t, t] }) (v sx v' : Value) (w1 : World)
    (hrun : (Builtin.append_ #[t, t] o.type #[v, sx]).run P W = .ok v' w1) (hs : a.eval s = v) (hx : a.eval x = sx) (hK : K (a.put o.dst v') w1) :
    if Region.wanted o (yielded ops a.tmps) = true then Oper.wp P o a W K Q else E := by
  have hw : Region.wanted o (yielded ops a.tmps) = true := by simp [Region.wanted, hgd]
  rw [if_pos hw]
  exact wp_append_run W s x t ho v sx v' w1 hrun hs hx hK

/-- 'b.f = append(b.f, x)': x laid in a block of its own, the append, the store. -/
theorem app_field {w : World} {b : Nat} {L S : Int} {V : Nat → Value} {X : Nat → List Value} (h : Bld w b L S V X) (p : Nat) (h1 : 2 ≤ p) (h2 : p < 6) (x : Value) (hx : x.oneCell' = true) (hlen : (X p).length ≤ 1000000) :
    ∃ g cap w1, (Builtin.append_ #[sty p, sty p] (sty p) #[V p, .slice (some ⟨w.heap.size, 0, none⟩) 1 1]).run Try.prog (w.alloc (.cells #[x] (ety p))) = .ok (.slice (some ⟨g, 0, none⟩) ((X p).length + 1) cap) w1 ∧
      w1.cell? ⟨b, p, none⟩ = some (V p) ∧ w1.frozen? ⟨b, p, none⟩ = false ∧
      Bld (w1.setCell ⟨b, p, none⟩ (.slice (some ⟨g, 0, none⟩) ((X p).length + 1) cap)) b L S (put V p (.slice (some ⟨g, 0, none⟩) ((X p).length + 1) cap)) (put X p (X p ++ [x])) ∧
      Step w b V (w1.setCell ⟨b, p, none⟩ (.slice (some ⟨g, 0, none⟩) ((X p).length + 1) cap)) (put V p (.slice (some ⟨g, 0, none⟩) ((X p).length + 1) cap)) := by
  obtain ⟨i, hi, hz0, hz1, hz2⟩ := info_parts (inf_f p h1 h2)
  have hz := zer_f p h1 h2
  have ha := h.alloc (.cells #[x] (ety p))
  obtain ⟨g, cap, w1, hrun, hown, hgrow, hat, hlt⟩ := run_append_lies (P := Try.prog) (w.alloc (.cells #[x] (ety p))) (sty p) (sty p) (b + 1) (ety p) i (zer p) 1 (byt p) (und_f p h1 h2) hi hz0 hz1 hz2 (by rw [hz.1]; rfl) (by decide)
    (V p) (X p).length (X p) (ha.own p h1 h2) ⟨w.heap.size, 0, none⟩ 1 1 [x] rfl (World.news_of_block (heap_alloc_new w _)) (fun u hu => by simp at hu; rw [hu]; exact hx) (by decide) (by unfold maxLen; omega)
    (Nat.le_trans (Nat.mul_le_mul (show (X p).length + 1 ≤ 1000001 by omega) hz.2) (by decide)) ha.lt (w.alloc (.cells #[x] (ety p))).heap.size rfl
  have hlen1 : (X p ++ [x]).length = (X p).length + 1 := by simp
  have hcell : w1.heap[b]? = (w.alloc (.cells #[x] (ety p))).heap[b]? := hgrow.block b ha.lt (fun e => by have := (ha.base h1 h2 e.symm).1; omega)
  have hb := ha.turned h1 h2 (w1 := w1) (v := .slice (some ⟨g, 0, none⟩) ((X p).length + 1) cap) (xs := X p ++ [x]) hgrow (by rw [hlen1]; exact hown) (fun j e => by
    simp [Value.ownBlock] at e
    subst e
    rcases hat with a | a
    · exact Or.inl a
    · exact Or.inr (by rw [a]; exact Nat.le_refl _))
  have hcp : (w.alloc (.cells #[x] (ety p))).cell? ⟨b, p, none⟩ = some (V p) := by
    rw [Lib.cell_of_heap ha.blk]
    have : p = 2 ∨ p = 3 ∨ p = 4 ∨ p = 5 := by omega
    rcases this with rfl | rfl | rfl | rfl <;> rfl
  exact ⟨g, cap, w1, hrun, (World.cell?_of_block (a := ⟨b, p, none⟩) hcell).trans hcp, (World.frozen?_of_block (a := ⟨b, p, none⟩) hcell).trans (ha.frozen p), hb.1, (Step.alloc w b V _).trans hb.2⟩

/-- 'b.f = make([]T, n, cap)': the run of the make, and what the store leaves. -/
theorem make_field {w : World} {b : Nat} {L S : Int} {V : Nat → Value} {X : Nat → List Value} (h : Bld w b L S V X) (p : Nat) (h1 : 2 ≤ p) (h2 : p < 6) (n c : Nat) (N C : Int) (hN : N = n) (hC : C = c) (hn : n ≤ c) (hc : c ≤ 1000000) :
    (Instr.makeSlice (sty p) (.int .i64 N) (.int .i64 C)).run Try.prog w = .ok (.slice (some ⟨w.heap.size, 0, none⟩) n c) (w.alloc (.cells (madeCells #[zer p] c) (ety p))) ∧
    Bld ((w.setCell ⟨b, p, none⟩ (.slice (some ⟨w.heap.size, 0, none⟩) n c)).alloc (.cells (madeCells #[zer p] c) (ety p))) b L S (put V p (.slice (some ⟨w.heap.size, 0, none⟩) n c)) (put X p (List.replicate n (zer p))) ∧
    Step w b V ((w.setCell ⟨b, p, none⟩ (.slice (some ⟨w.heap.size, 0, none⟩) n c)).alloc (.cells (madeCells #[zer p] c) (ety p))) (put V p (.slice (some ⟨w.heap.size, 0, none⟩) n c)) := by
  subst hN hC
  obtain ⟨i, hi, hz0, hz1, hz2⟩ := info_parts (inf_f p h1 h2)
  have hz := zer_f p h1 h2
  have hbc : byt p * c ≤ 16 * 1000000 := Nat.mul_le_mul hz.2 hc
  have hr := run_make (P := Try.prog) w (sty p) (ety p) i (zer p) (und_f p h1 h2) hi hz0 .i64 .i64 n c (by omega) (by omega) (by rw [hz2]; have : ((byt p * c : Nat) : Int) ≤ 16000000 := by omega
                                                                                                                                 rw [Int.natCast_mul] at this; omega) (by omega)
  simp only [Int.toNat_natCast, hz1, Nat.mul_one, hz.1] at hr
  have hm := h.made h1 h2 (madeCells #[zer p] c) n (by rw [size_madeCells]; exact hn) (by rw [size_madeCells]; unfold maxLen; omega)
  rw [size_madeCells] at hm
  have e : (madeCells #[zer p] c).toList.take n = List.replicate n (zer p) := by
    apply List.ext_getElem?
    intro j
    by_cases hj : j < n
    · have hjc : j < c := by omega
      simp [hj, madeCells, hjc, Nat.mod_one]
    · simp [List.getElem?_take, hj]
  rw [e] at hm
  exact ⟨hr, hm⟩

theorem app2 {w : World} {b : Nat} {L S : Int} {V : Nat → Value} {X : Nat → List Value} (h : Bld w b L S V X) (x : Value) (hx : x.oneCell' = true) (hlen : (X 2).length ≤ 1000000) :
    ∃ g cap w1, (Builtin.append_ #[40, 40] 40 #[V 2, .slice (some ⟨w.heap.size, 0, none⟩) 1 1]).run Try.prog (w.alloc (.cells #[x] 27)) = .ok (.slice (some ⟨g, 0, none⟩) ((X 2).length + 1) cap) w1 ∧
      w1.cell? ⟨b, 2, none⟩ = some (V 2) ∧ w1.frozen? ⟨b, 2, none⟩ = false ∧
      Bld (w1.setCell ⟨b, 2, none⟩ (.slice (some ⟨g, 0, none⟩) ((X 2).length + 1) cap)) b L S (put V 2 (.slice (some ⟨g, 0, none⟩) ((X 2).length + 1) cap)) (put X 2 (X 2 ++ [x])) ∧
      Step w b V (w1.setCell ⟨b, 2, none⟩ (.slice (some ⟨g, 0, none⟩) ((X 2).length + 1) cap)) (put V 2 (.slice (some ⟨g, 0, none⟩) ((X 2).length + 1) cap)) :=
  app_field h 2 (by decide) (by decide) x hx hlen

theorem make2 {w : World} {b : Nat} {L S : Int} {V : Nat → Value} {X : Nat → List Value} (h : Bld w b L S V X) (n c : Nat) (N C : Int) (hN : N = n) (hC : C = c) (hn : n ≤ c) (hc : c ≤ 1000000) :
    (Instr.makeSlice 40 (.int .i64 N) (.int .i64 C)).run Try.prog w = .ok (.slice (some ⟨w.heap.size, 0, none⟩) n c) (w.alloc (.cells (madeCells #[.int .u64 0] c) 27)) ∧
    Bld ((w.setCell ⟨b, 2, none⟩ (.slice (some ⟨w.heap.size, 0, none⟩) n c)).alloc (.cells (madeCells #[.int .u64 0] c) 27)) b L S (put V 2 (.slice (some ⟨w.heap.size, 0, none⟩) n c)) (put X 2 (List.replicate n (.int .u64 0))) ∧
    Step w b V ((w.setCell ⟨b, 2, none⟩ (.slice (some ⟨w.heap.size, 0, none⟩) n c)).alloc (.cells (madeCells #[.int .u64 0] c) 27)) (put V 2 (.slice (some ⟨w.heap.size, 0, none⟩) n c)) :=
  make_field h 2 (by decide) (by decide) n c N C hN hC hn hc

theorem app3 {w : World} {b : Nat} {L S : Int} {V : Nat → Value} {X : Nat → List Value} (h : Bld w b L S V X) (x : Value) (hx : x.oneCell' = true) (hlen : (X 3).length ≤ 1000000) :
    ∃ g cap w1, (Builtin.append_ #[40, 40] 40 #[V 3, .slice (some ⟨w.heap.size, 0, none⟩) 1 1]).run Try.prog (w.alloc (.cells #[x] 27)) = .ok (.slice (some ⟨g, 0, none⟩) ((X 3).length + 1) cap) w1 ∧
      w1.cell? ⟨b, 3, none⟩ = some (V 3) ∧ w1.frozen? ⟨b, 3, none⟩ = false ∧
      Bld (w1.setCell ⟨b, 3, none⟩ (.slice (some ⟨g, 0, none⟩) ((X 3).length + 1) cap)) b L S (put V 3 (.slice (some ⟨g, 0, none⟩) ((X 3).length + 1) cap)) (put X 3 (X 3 ++ [x])) ∧
      Step w b V (w1.setCell ⟨b, 3, none⟩ (.slice (some ⟨g, 0, none⟩) ((X 3).length + 1) cap)) (put V 3 (.slice (some ⟨g, 0, none⟩) ((X 3).length + 1) cap)) :=
  app_field h 3 (by decide) (by decide) x hx hlen

theorem make3 {w : World} {b : Nat} {L S : Int} {V : Nat → Value} {X : Nat → List Value} (h : Bld w b L S V X) (n c : Nat) (N C : Int) (hN : N = n) (hC : C = c) (hn : n ≤ c) (hc : c ≤ 1000000) :
    (Instr.makeSlice 40 (.int .i64 N) (.int .i64 C)).run Try.prog w = .ok (.slice (some ⟨w.heap.size, 0, none⟩) n c) (w.alloc (.cells (madeCells #[.int .u64 0] c) 27)) ∧
    Bld ((w.setCell ⟨b, 3, none⟩ (.slice (some ⟨w.heap.size, 0, none⟩) n c)).alloc (.cells (madeCells #[.int .u64 0] c) 27)) b L S (put V 3 (.slice (some ⟨w.heap.size, 0, none⟩) n c)) (put X 3 (List.replicate n (.int .u64 0))) ∧
    Step w b V ((w.setCell ⟨b, 3, none⟩ (.slice (some ⟨w.heap.size, 0, none⟩) n c)).alloc (.cells (madeCells #[.int .u64 0] c) 27)) (put V 3 (.slice (some ⟨w.heap.size, 0, none⟩) n c)) :=
  make_field h 3 (by decide) (by decide) n c N C hN hC hn hc

theorem app4 {w : World} {b : Nat} {L S : Int} {V : Nat → Value} {X : Nat → List Value} (h : Bld w b L S V X) (x : Value) (hx : x.oneCell' = true) (hlen : (X 4).length ≤ 1000000) :
    ∃ g cap w1, (Builtin.append_ #[41, 41] 41 #[V 4, .slice (some ⟨w.heap.size, 0, none⟩) 1 1]).run Try.prog (w.alloc (.cells #[x] 9)) = .ok (.slice (some ⟨g, 0, none⟩) ((X 4).length + 1) cap) w1 ∧
      w1.cell? ⟨b, 4, none⟩ = some (V 4) ∧ w1.frozen? ⟨b, 4, none⟩ = false ∧
      Bld (w1.setCell ⟨b, 4, none⟩ (.slice (some ⟨g, 0, none⟩) ((X 4).length + 1) cap)) b L S (put V 4 (.slice (some ⟨g, 0, none⟩) ((X 4).length + 1) cap)) (put X 4 (X 4 ++ [x])) ∧
      Step w b V (w1.setCell ⟨b, 4, none⟩ (.slice (some ⟨g, 0, none⟩) ((X 4).length + 1) cap)) (put V 4 (.slice (some ⟨g, 0, none⟩) ((X 4).length + 1) cap)) :=
  app_field h 4 (by decide) (by decide) x hx hlen

theorem make4 {w : World} {b : Nat} {L S : Int} {V : Nat → Value} {X : Nat → List Value} (h : Bld w b L S V X) (n c : Nat) (N C : Int) (hN : N = n) (hC : C = c) (hn : n ≤ c) (hc : c ≤ 1000000) :
    (Instr.makeSlice 41 (.int .i64 N) (.int .i64 C)).run Try.prog w = .ok (.slice (some ⟨w.heap.size, 0, none⟩) n c) (w.alloc (.cells (madeCells #[.string ByteArray.empty] c) 9)) ∧
    Bld ((w.setCell ⟨b, 4, none⟩ (.slice (some ⟨w.heap.size, 0, none⟩) n c)).alloc (.cells (madeCells #[.string ByteArray.empty] c) 9)) b L S (put V 4 (.slice (some ⟨w.heap.size, 0, none⟩) n c)) (put X 4 (List.replicate n (.string ByteArray.empty))) ∧
    Step w b V ((w.setCell ⟨b, 4, none⟩ (.slice (some ⟨w.heap.size, 0, none⟩) n c)).alloc (.cells (madeCells #[.string ByteArray.empty] c) 9)) (put V 4 (.slice (some ⟨w.heap.size, 0, none⟩) n c)) :=
  make_field h 4 (by decide) (by decide) n c N C hN hC hn hc

theorem app5 {w : World} {b : Nat} {L S : Int} {V : Nat → Value} {X : Nat → List Value} (h : Bld w b L S V X) (x : Value) (hx : x.oneCell' = true) (hlen : (X 5).length ≤ 1000000) :
    ∃ g cap w1, (Builtin.append_ #[42, 42] 42 #[V 5, .slice (some ⟨w.heap.size, 0, none⟩) 1 1]).run Try.prog (w.alloc (.cells #[x] 46)) = .ok (.slice (some ⟨g, 0, none⟩) ((X 5).length + 1) cap) w1 ∧
      w1.cell? ⟨b, 5, none⟩ = some (V 5) ∧ w1.frozen? ⟨b, 5, none⟩ = false ∧
      Bld (w1.setCell ⟨b, 5, none⟩ (.slice (some ⟨g, 0, none⟩) ((X 5).length + 1) cap)) b L S (put V 5 (.slice (some ⟨g, 0, none⟩) ((X 5).length + 1) cap)) (put X 5 (X 5 ++ [x])) ∧
      Step w b V (w1.setCell ⟨b, 5, none⟩ (.slice (some ⟨g, 0, none⟩) ((X 5).length + 1) cap)) (put V 5 (.slice (some ⟨g, 0, none⟩) ((X 5).length + 1) cap)) :=
  app_field h 5 (by decide) (by decide) x hx hlen

theorem make5 {w : World} {b : Nat} {L S : Int} {V : Nat → Value} {X : Nat → List Value} (h : Bld w b L S V X) (n c : Nat) (N C : Int) (hN : N = n) (hC : C = c) (hn : n ≤ c) (hc : c ≤ 1000000) :
    (Instr.makeSlice 42 (.int .i64 N) (.int .i64 C)).run Try.prog w = .ok (.slice (some ⟨w.heap.size, 0, none⟩) n c) (w.alloc (.cells (madeCells #[.int .u8 0] c) 46)) ∧
    Bld ((w.setCell ⟨b, 5, none⟩ (.slice (some ⟨w.heap.size, 0, none⟩) n c)).alloc (.cells (madeCells #[.int .u8 0] c) 46)) b L S (put V 5 (.slice (some ⟨w.heap.size, 0, none⟩) n c)) (put X 5 (List.replicate n (.int .u8 0))) ∧
    Step w b V ((w.setCell ⟨b, 5, none⟩ (.slice (some ⟨w.heap.size, 0, none⟩) n c)).alloc (.cells (madeCells #[.int .u8 0] c) 46)) (put V 5 (.slice (some ⟨w.heap.size, 0, none⟩) n c)) :=
  make_field h 5 (by decide) (by decide) n c N C hN hC hn hc
end Go.Proofs.Qxb6603696a
