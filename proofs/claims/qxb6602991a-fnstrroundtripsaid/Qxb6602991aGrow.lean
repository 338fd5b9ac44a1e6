import Derived.Test.Qxb6602991aRow
import Derived.Deep.AppendLies
namespace Go.Proofs.Qxb6602991a
open Go.RowKit

/-- The bytes as cells. -/
def bv (l : List Int) : List Value := l.map (Value.int .u8 ·)

/-- The slice ⟨g⟩ of n bytes is the call's own (block from B on) and holds l. -/
def Ow (w : World) (B g n cap : Nat) (l : List Int) : Prop :=
  l.length = n ∧ B ≤ w.heap.size ∧ g < w.heap.size ∧ w.ownsRow B 5 1 (.slice (some ⟨g, 0, none⟩) n cap) n (bv l)

/-- An append whose run is known, at the operation. -/
theorem wp_append_run {P : Program} (W : World) {o : Oper} {a : Act} {K : Act → World → Prop} {Q : Exit → Act → World → Prop} (s x : Operand) (t : TypeId)
    (ho : o.op = .call { callee := .builtin .append, args := #[s, x], argTypes := #[t, t] }) (v sx v' : Value) (w1 : World)
    (hrun : (Builtin.append_ #[t, t] o.type #[v, sx]).run P W = .ok v' w1) (hs : a.eval s = v) (hx : a.eval x = sx) (hK : K (a.put o.dst v') w1) : o.wp P a W K Q := by
  unfold Oper.wp execOp
  simp only [ho, resolve, invoke, builtin, Sem.run_bind, Sem.run_pure, Result.andThen_ok, List.map_toArray, List.map_cons, List.map_nil, hs, hx, hrun]
  exact hK

/-- .. at a plain region's list. -/
theorem wpList_append_run {P : Program} (W : World) {ops : Array Oper} {rest : List Oper} {o : Oper} {a : Act} {Q : Exit → Act → World → Prop} (hgd : o.guard = none) (s x : Operand) (t : TypeId)
    (ho : o.op = .call { callee := .builtin .append, args := #[s, x], argTypes := #[t, t] }) (v sx v' : Value) (w1 : World)
    (hrun : (Builtin.append_ #[t, t] o.type #[v, sx]).run P W = .ok v' w1) (hs : a.eval s = v) (hx : a.eval x = sx) (hK : wpList P ops Q rest (a.put o.dst v') w1) : wpList P ops Q (o :: rest) a W :=
  wpList_plain hgd fun _ hK' => wp_append_run W s x t ho v sx v' w1 hrun hs hx (hK' _ _ hK)

/-- .. at a step of a region that draws its order. -/
theorem step_append_run {P : Program} (W : World) {ops : Array Oper} {o : Oper} {a : Act} {K : Act → World → Prop} {Q : Exit → Act → World → Prop} {E : Prop} (hgd : o.guard = none) (s x : Operand) (t : TypeId)
    (ho : o.op = .call { callee := .builtin .append, args := #[s, x], argTypes := #[t, t] }) (v sx v' : Value) (w1 : World)
    (hrun : (Builtin.append_ #[t, t] o.type #[v, sx]).run P W = .ok v' w1) (hs : a.eval s = v) (hx : a.eval x = sx) (hK : K (a.put o.dst v') w1) :
    if Region.wanted o (yielded ops a.tmps) = true then Oper.wp P o a W K Q else E := by
  have hw : Region.wanted o (yielded ops a.tmps) = true := by simp [Region.wanted, hgd]
  rw [if_pos hw]
  exact wp_append_run W s x t ho v sx v' w1 hrun hs hx hK

theorem info_parts' {e : TypeId} {z : Value} {s b : Nat} (h : (Try.prog.info? e).map (fun i => (i.zero, i.size, i.bytes)) = some (some z, s, b)) : ∃ i, Try.prog.info? e = some i ∧ i.zero = some z ∧ i.size = s ∧ i.bytes = b := by
  obtain ⟨i, hi, hzz⟩ := Option.map_eq_some_iff.1 h
  simp only [Prod.mk.injEq] at hzz
  exact ⟨i, hi, hzz.1, hzz.2.1, hzz.2.2⟩

/-- The bytes ys laid in a block of their own, then appended. -/
theorem app_own {w : World} {B g n cap : Nat} {xs : List Int} (ys : List Int) (c : Array Value) (m : Nat) (hc : c = (bv ys).toArray) (hm : ys.length = m) (h : Ow w B g n cap xs) (hy : 0 < m) (hb : n + m ≤ 10000000) :
    ∃ g' cap' w1, (Builtin.append_ #[22, 22] 22 #[.slice (some ⟨g, 0, none⟩) n cap, .slice (some ⟨w.heap.size, 0, none⟩) m m]).run Try.prog (w.alloc (.cells c 5)) = .ok (.slice (some ⟨g', 0, none⟩) (n + m) cap') w1 ∧
      Ow w1 B g' (n + m) cap' (xs ++ ys) ∧ Below B w w1 := by
  subst hc hm
  obtain ⟨hn, hB, hg, ho⟩ := h
  obtain ⟨i, hi, hz0, hz1, hz2⟩ := info_parts' info5
  have ha := ho.alloc (.cells (bv ys).toArray 5)
  have hsz := size_new w (.cells (bv ys).toArray 5)
  obtain ⟨g', cap', w1, hrun, hown, hgrow, hat, hlt⟩ := run_append_lies (P := Try.prog) (w.alloc (.cells (bv ys).toArray 5)) 22 22 B 5 i (.int .u8 0) 1 1 Try.underlying22 hi hz0 hz1 hz2 rfl (by decide)
    _ n (bv xs) ha ⟨w.heap.size, 0, none⟩ ys.length ys.length (bv ys) (by simp [bv]) (by
      intro j u hu
      have := World.news_of_block (w := w.alloc (.cells (bv ys).toArray 5)) (heap_alloc_new w (.cells (bv ys).toArray 5))
      exact this j u (by simpa using hu)) (fun u hu => by
        simp only [bv, List.mem_map] at hu
        obtain ⟨z, _, rfl⟩ := hu
        rfl) hy (by unfold maxLen; omega) (by omega) (by omega) _ rfl
  refine ⟨g', cap', w1, hrun, ⟨by simp [hn], by have := hgrow.size; omega, hlt, ?_⟩, ?_⟩
  · rw [show bv (xs ++ ys) = bv xs ++ bv ys by simp [bv]]
    exact hown
  · refine ((Below.refl B w).alloc hB _).grown hgrow (by omega) (fun k hk => ?_)
    have := (ha.lt k hk)
    exact this.1

/-- What an own slice reads. -/
theorem Ow.bs {w : World} {B g n cap : Nat} {l : List Int} (h : Ow w B g n cap l) : Bs w w.heap.size (some ⟨g, 0, none⟩) l := by
  obtain ⟨hn, hB, hg, _, h⟩ := h
  rcases h with ⟨h, _⟩ | ⟨g', cap', cur, he, _, hcur, _, _, hs, ht⟩
  · cases h
  · simp only [Value.slice.injEq, Option.some.injEq, Addr.mk.injEq] at he
    obtain ⟨⟨rfl, _, _⟩, _, rfl⟩ := he
    refine Or.inr ⟨_, rfl, fun i hi => ⟨hg, ?_⟩⟩
    have e : (Addr.add ⟨g, 0, none⟩ i) = ⟨g, i, none⟩ := by simp [Addr.add]; intro h; rw [h]
    rw [e]
    have hcell : w.cell? ⟨g, i, none⟩ = cur[i]? := by
      unfold World.cell?
      simp only [hcur]
      simp
    rw [hcell]
    have h2 : (cur.toList.take (n * 1))[i]? = (bv l)[i]? := by rw [ht]
    rw [List.getElem?_take] at h2
    rw [if_pos (by omega)] at h2
    rw [← Array.getElem?_toList, h2]
    simp [bv, nth, hi]

theorem Ow.keep {w w' : World} {B B' g n cap : Nat} {l : List Int} (h : Ow w B g n cap l) (hb : Below B' w w') (hg : g < B') : Ow w' B g n cap l := by
  obtain ⟨hn, hB, hg', ho⟩ := h
  refine ⟨hn, Nat.le_trans hB hb.size, Nat.lt_of_lt_of_le hg' hb.size, ho.1, ?_⟩
  rcases ho.2 with h | ⟨g', cap', cur, he, h1, hcur, hrest⟩
  · exact Or.inl h
  · refine Or.inr ⟨g', cap', cur, he, h1, ?_, hrest⟩
    simp only [Value.slice.injEq, Option.some.injEq, Addr.mk.injEq] at he
    obtain ⟨⟨rfl, _, _⟩, _, rfl⟩ := he
    rw [hb.block _ hg]
    exact hcur
end Go.Proofs.Qxb6602991a
