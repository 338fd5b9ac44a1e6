import Derived.Test.Qxb6603696aAddGen
namespace Go.Proofs.Qxb6603696a
open Go.RowKit

theorem add_any (b : Nat) (w : World) (L S : Int) (V : Nat → Value) (X : Nat → List Value) (h : Bld w b L S V X) (hL0 : 0 ≤ L) (hL1 : L ≤ 65536) (hS0 : 0 ≤ S) (hS1 : S ≤ 65536) (es : List El) (hn : es.length ≤ 16384) (hr : Rep V X es)
    (k : Int) (bo isI : Bool) (nsec bits : Int) (s : ByteArray) (q : Option Addr) :
    Calls Try.prog 15 #[.pointer (some ⟨b, 0, none⟩), .agg #[.int .u8 k, .bool bo, .int .i32 nsec, .bool isI, .int .u64 bits, .string s, .pointer q]] w fun e w' => e = .returned (.tuple #[]) ∧
      ∃ V' X', Bld w' b L S V' X' ∧ Step w b V w' V' ∧ Rep V' X' (es ++ [⟨k, bo, isI, bits, s⟩]) := by
  have gen : Mode V X es k → Calls Try.prog 15 #[.pointer (some ⟨b, 0, none⟩), .agg #[.int .u8 k, .bool bo, .int .i32 nsec, .bool isI, .int .u64 bits, .string s, .pointer q]] w fun e w' => e = .returned (.tuple #[]) ∧
      ∃ V' X', Bld w' b L S V' X' ∧ Step w b V w' V' ∧ Rep V' X' (es ++ [⟨k, bo, isI, bits, s⟩]) := fun hm => by
    refine (add_gen b w L S V X h hL0 hL1 hS0 hS1 es hn k hm bo isI nsec bits s q).mono ?_
    rintro e w' ⟨rfl, V', X', hB, hS, hR⟩
    exact ⟨rfl, V', X', hB, hS, Or.inr (Or.inr (Or.inr hR))⟩
  have num : (∀ x ∈ es, x.k = 2) → V 5 = .slice none 0 0 → V 4 = .slice none 0 0 → X 4 = [] → X 2 = u64s (slotsOf es 0) → X 3 = u64s (intsOf es) → k = 2 →
      Calls Try.prog 15 #[.pointer (some ⟨b, 0, none⟩), .agg #[.int .u8 k, .bool bo, .int .i32 nsec, .bool isI, .int .u64 bits, .string s, .pointer q]] w fun e w' => e = .returned (.tuple #[]) ∧
      ∃ V' X', Bld w' b L S V' X' ∧ Step w b V w' V' ∧ Rep V' X' (es ++ [⟨k, bo, isI, bits, s⟩]) := fun hall v5 v4 x4 x2 x3 hk => by
    subst hk
    refine (add_num b w L S V X h hL0 hL1 (slotsOf es 0) (intsOf es) x2 x3 (by rw [intsOf_len, slotsOf_len]) (by rw [slotsOf_len]; omega) v5 v4 bo isI nsec bits s q).mono ?_
    rintro e w' ⟨rfl, V', X', g, cap, hB, hS, r4, r5, rx4, rx5, rx2, rx3, rv2⟩
    refine ⟨rfl, V', X', hB, hS, Or.inr (Or.inl ⟨fun x hx => ?_, by rw [r5, v5], by rw [r4, v4], by rw [rx4, x4], ?_, ?_, g, cap, by rw [rv2]; simp [slotsOf_len]⟩)⟩
    · rcases List.mem_append.1 hx with a | a
      · exact hall x a
      · simp at a; rw [a]
    · rw [rx2, slotsOf_snoc]; simp [slotOf]
    · rw [rx3, intsOf_snoc, slotsOf_len]; simp
  have str : (∀ x ∈ es, x.k = 3) → V 5 = .slice none 0 0 → V 2 = .slice none 0 0 → X 4 = strV es → k = 3 →
      Calls Try.prog 15 #[.pointer (some ⟨b, 0, none⟩), .agg #[.int .u8 k, .bool bo, .int .i32 nsec, .bool isI, .int .u64 bits, .string s, .pointer q]] w fun e w' => e = .returned (.tuple #[]) ∧
      ∃ V' X', Bld w' b L S V' X' ∧ Step w b V w' V' ∧ Rep V' X' (es ++ [⟨k, bo, isI, bits, s⟩]) := fun hall v5 v2 x4 hk => by
    subst hk
    have hx4 : (X 4).length = es.length := by rw [x4, strV_all es hall]
    refine (add_str b w L S V X h hS0 hS1 (by omega) v5 v2 bo isI nsec bits s q).mono ?_
    rintro e w' ⟨rfl, V', X', g, cap, hB, hS, r2, r3, r5, rx2, rx3, rx5, rx4, rv4⟩
    refine ⟨rfl, V', X', hB, hS, Or.inr (Or.inr (Or.inl ⟨fun x hx => ?_, by rw [r5, v5], by rw [r2, v2], ?_, g, cap, by rw [rv4, hx4]; simp⟩))⟩
    · rcases List.mem_append.1 hx with a | a
      · exact hall x a
      · simp at a; rw [a]
    · rw [rx4, x4, strV_snoc_str es _ rfl]
  rcases hr with ⟨rfl, v2, v3, v4, v5, x2, x3, x4, x5⟩ | ⟨hall, v5, v4, x4, x2, x3, g, cap, v2⟩ | ⟨hall, v5, v2, x4, g, cap, v4⟩ | m3
  · by_cases h2 : k = 2
    · exact num (fun x hx => by simp at hx) v5 v4 x4 x2 x3 h2
    · by_cases h3 : k = 3
      · exact str (fun x hx => by simp at hx) v5 v2 x4 h3
      · exact gen (Or.inr (Or.inr ⟨v5, v2, x4, by rw [x4]; rfl, rfl, rfl, rfl, h3, fun _ => h2⟩))
  · by_cases h2 : k = 2
    · exact num hall v5 v4 x4 x2 x3 h2
    · exact gen (Or.inr (Or.inl ⟨v5, ⟨g, cap, v2⟩, x2, x3, by rw [x4, strV_none es hall], kinds_all es 2 hall, h2⟩))
  · by_cases h3 : k = 3
    · exact str hall v5 v2 x4 h3
    · exact gen (Or.inr (Or.inr ⟨v5, v2, x4, by rw [x4, strV_all es hall], slots_strs0 es hall, ints_none es (fun x hx => by rw [hall x hx]; decide), kinds_all es 3 hall, h3, fun e => by rw [v4] at e; cases e⟩))
  · exact gen (Or.inl m3)

set_option maxHeartbeats 2000000 in
set_option maxRecDepth 1000000 in
theorem zzValue_any (w : World) (k : Int) (bo isI ha : Bool) (nsec bits ot : Int) (s : ByteArray) :
    Calls Try.prog 16 #[.int .u8 k, .bool bo, .int .i32 nsec, .bool isI, .int .u64 bits, .string s, .bool ha, .int .i64 ot] w fun e w' => ∃ q : Option Addr, e = .returned (.agg #[.int .u8 k, .bool bo, .int .i32 nsec, .bool isI, .int .u64 bits, .string s, .pointer q]) ∧ Below w.heap.size w w' := by
  cases ha with
  | false =>
    go_enter Try.func16, Try.ntmps16
    go_wp2
    exact bodyPost_ret (v := .agg #[.int .u8 k, .bool bo, .int .i32 nsec, .bool isI, .int .u64 bits, .string s, .pointer none]) (by simp [results, Try.results16, go_sem]) rfl ⟨_, rfl, (Below.refl _ _).alloc (Nat.le_refl _) _⟩
  | true =>
    go_enter Try.func16, Try.ntmps16
    go_wp2
    exact bodyPost_ret (v := .agg #[.int .u8 k, .bool bo, .int .i32 nsec, .bool isI, .int .u64 bits, .string s, .pointer (some ⟨w.heap.size + 1, 0, none⟩)]) (by simp [results, Try.results16, go_sem]) rfl ⟨_, rfl, ((Below.refl _ _).alloc (Nat.le_refl _) _).alloc (by simp) _⟩

theorem Bld.keep {w w' : World} {b : Nat} {L S : Int} {V : Nat → Value} {X : Nat → List Value} (h : Bld w b L S V X) (hb : Below w.heap.size w w') : Bld w' b L S V X ∧ Step w b V w' V := by
  refine ⟨⟨(hb.block b h.lt).trans h.blk, fun p h1 h2 => ?_, h.apart⟩, hb.os, hb.tape, hb.output, hb.size, fun k hk _ _ => hb.block k hk, fun _ _ _ _ e => Or.inl e⟩
  exact (h.own p h1 h2).kept (row := none) ⟨hb.os, hb.tape, hb.output, hb.size, fun k hk _ => hb.block k hk⟩ (by cases (V p).ownBlock <;> simp)

set_option maxHeartbeats 2000000 in
set_option maxRecDepth 1000000 in
theorem zzAdd_any (b : Nat) (w : World) (L S : Int) (V : Nat → Value) (X : Nat → List Value) (h : Bld w b L S V X) (hL0 : 0 ≤ L) (hL1 : L ≤ 65536) (hS0 : 0 ≤ S) (hS1 : S ≤ 65536) (es : List El) (hn : es.length ≤ 16384) (hr : Rep V X es)
    (k : Int) (bo isI ha : Bool) (nsec bits ot : Int) (s : ByteArray) :
    Calls Try.prog 8 #[.pointer (some ⟨b, 0, none⟩), .int .u8 k, .bool bo, .int .i32 nsec, .bool isI, .int .u64 bits, .string s, .bool ha, .int .i64 ot] w fun e w' => e = .returned (.tuple #[]) ∧
      ∃ V' X', Bld w' b L S V' X' ∧ Step w b V w' V' ∧ Rep V' X' (es ++ [⟨k, bo, isI, bits, s⟩]) := by
  have HH := Hid.mk (And.intro h hr)
  clear h hr
  go_enter Try.func8, Try.ntmps8
  go_wp2_with (go_at_call 16; refine (zzValue_any _ k bo isI ha nsec bits ot s).mono ?_; rintro e w' ⟨q, rfl, hb⟩)
  go_wp2_with (go_at_call 15; refine (add_any b w' L S V X (HH.out.1.keep hb).1 hL0 hL1 hS0 hS1 es hn HH.out.2 k bo isI nsec bits s q).mono ?_; rintro e w'' ⟨rfl, V', X', hB, hS, hR⟩)
  go_end0
  exact ⟨rfl, V', X', hB, (HH.out.1.keep hb).2.trans hS, hR⟩

set_option maxHeartbeats 2000000 in
set_option maxRecDepth 1000000 in
theorem zzNew_any (w : World) (L S : Int) :
    Calls Try.prog 7 #[.int .i64 L, .int .i64 S] w fun e w' => e = .returned (.pointer (some ⟨w.heap.size, 0, none⟩)) ∧ ∃ V X, Bld w' w.heap.size L S V X ∧ Rep V X [] ∧ Below w.heap.size w w' := by
  go_enter Try.func7, Try.ntmps7
  go_wp2
  go_ret
  refine ⟨rfl, fun _ => .slice none 0 0, fun _ => [], ⟨heap_alloc_new w _, fun p h1 h2 => World.ownsRow_nil _ _ _ _, fun p q _ _ _ _ _ j e => by cases e⟩, Or.inl ⟨rfl, rfl, rfl, rfl, rfl, rfl, rfl, rfl, rfl⟩, (Below.refl _ _).alloc (Nat.le_refl _) _⟩
end Go.Proofs.Qxb6603696a
