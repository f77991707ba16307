import Derived.Test.Qxb6613887aGraph
import Derived.Test.Qxb6613887aReach
namespace Go.Proofs.Qxb6613887a
open Go.RowKit
open Plain (inN Bfs)

theorem ownI_nil (w : World) (B : Nat) : OwnI w B none 0 [] := World.ownsRow_nil w B 21 1
theorem ownI_empty (w : World) : OwnI (w.alloc (.cells #[] 21)) w.heap.size (some ⟨w.heap.size, 0, none⟩) 0 [] :=
  ⟨rfl, Or.inr ⟨_, 0, #[], rfl, Nat.le_refl _, (MapKept.heap_alloc w _).1, Nat.le_refl _, Nat.zero_le _, rfl, rfl⟩⟩
theorem ownI_one (w : World) (y : Int) : OwnI (w.alloc (.cells #[.int .i32 y] 21)) w.heap.size (some ⟨w.heap.size, 0, none⟩) 1 [y] :=
  ⟨rfl, Or.inr ⟨_, 1, #[.int .i32 y], rfl, Nat.le_refl _, (MapKept.heap_alloc w _).1, Nat.le_refl _, by unfold maxLen; omega, rfl, rfl⟩⟩

set_option maxHeartbeats 400000 in
theorem clone_any (v : Value) (zs : List Int) (w : World) (h : RowI w v zs) (hb : zs.length ≤ 1048576) :
    Calls Try.prog 28 #[v] w fun e w' => ∃ a cap, e = .returned (.slice a zs.length cap) ∧ OwnI w' w.heap.size a cap zs ∧ Keeps w w' := by
  obtain ⟨a, cap, rfl, hnil⟩ := h.shape
  cases a with
  | none =>
    have he : zs = [] := by
      obtain ⟨_, _, _, hv, _, hx⟩ := h
      cases hv
      rcases hx with hx | ⟨_, _, hx, _⟩
      · exact hx
      · cases hx
    subst he
    obtain rfl := hnil rfl
    have heq := fun w => Lib.run_eql_slice_nil (P := Try.prog) w 38 21 none 0 0 0 0 Try.underlying38
    go_enter Try.func28, Try.ntmps28
    go_wp2
    go_ret
    exact ⟨none, 0, rfl, ownI_nil _ _, Keeps.refl _⟩
  | some ad =>
    have heq := fun w => Lib.run_eql_slice_nil (P := Try.prog) w 38 21 (some ad) zs.length cap 0 0 Try.underlying38
    have hk : Keeps w (w.alloc (.cells #[] 21)) := (Keeps.refl w).alloc _
    go_enter Try.func28, Try.ntmps28
    go_wp2_with (at_builtin; go_must (refine wpList_pushI rfl _ _ rfl (ownI_empty w) rfl (.slice (some ad) zs.length cap) rfl (RowI.keep h hk) (by simp; omega) (by simp) ?_); intro a' cap' w' ho hg hl)
    go_ret
    simp only [List.nil_append] at ho
    exact ⟨a', cap', rfl, ho, Keeps.grown hk hg (fun k hk => by cases hk; exact Nat.le_refl _)⟩

theorem OwnI.mono {w : World} {B B' : Nat} {a : Option Addr} {cap : Nat} {zs : List Int} (h : OwnI w B a cap zs) (hB : B' ≤ B) : OwnI w B' a cap zs := by
  refine ⟨h.1, ?_⟩
  rcases h.2 with h2 | ⟨g, c, cur, hv, hb, r⟩
  · exact Or.inl h2
  · exact Or.inr ⟨g, c, cur, hv, Nat.le_trans hB hb, r⟩

/-- The cone and its set. -/
structure CSt (W0 wr : World) (bm B : Nat) (a : Option Addr) (cap : Nat) (cone : List Int) : Prop where
  own : OwnI wr B a cap cone
  set : SetIs wr bm cone
  keep : Keeps W0 wr
  ne : blk a ≠ some bm
  bB : B ≤ bm
  B : B = W0.heap.size

/-- .. and what comes next. -/
structure NSt (W0 wr : World) (bm B : Nat) (a : Option Addr) (cap : Nat) (cone : List Int) (a2 : Option Addr) (cap2 : Nat) (nx : List Int) : Prop where
  c : CSt W0 wr bm B a cap cone
  own : OwnI wr B a2 cap2 nx
  ne1 : blk a2 ≠ some bm
  ne2 : ∀ q, blk a2 = some q → blk a ≠ some q

variable {W0 wr w' : World} {bm B : Nat} {a a2 : Option Addr} {cap cap2 : Nat} {cone nx : List Int}

theorem CSt.size (h : CSt W0 wr bm B a cap cone) : B ≤ wr.heap.size := by rw [h.B]; exact h.keep.size

theorem CSt.keptBy {row : Option Nat} (h : CSt W0 wr bm B a cap cone) (hg : wr.grownBy w' row) (h1 : row ≠ some bm) (h2 : ∀ q, row = some q → blk a ≠ some q ∧ B ≤ q) : CSt W0 w' bm B a cap cone :=
  ⟨h.own.keptBy hg (fun g hg' e => (h2 g e).1 hg'), ⟨h.set.1.keptBy hg h1, h.set.2⟩, Keeps.grown h.keep hg (fun k hk => by rw [← h.B]; exact (h2 k hk).2), h.ne, h.bB, h.B⟩
theorem CSt.grows (h : CSt W0 wr bm B a cap cone) (hk : Keeps wr w') : CSt W0 w' bm B a cap cone :=
  h.keptBy (row := none) ⟨hk.os, hk.tape, hk.output, hk.size, fun k hk' _ => hk.block k hk'⟩ (by simp) (by simp)
theorem CSt.clone (h : CSt W0 wr bm B a cap cone) (hk : Keeps wr w') (ho : OwnI w' wr.heap.size a2 cap2 nx) : NSt W0 w' bm B a cap cone a2 cap2 nx := by
  refine ⟨h.grows hk, ho.mono h.size, fun e => ?_, fun q e e2 => ?_⟩
  · have h1 := (ho.blk_ge e).1
    have h2 := h.set.1.lt
    omega
  · have h1 := (ho.blk_ge e).1
    have h2 := (h.own.blk_ge e2).2
    omega
theorem NSt.alloc (h : NSt W0 wr bm B a cap cone a2 cap2 nx) (o : Obj) : NSt W0 (wr.alloc o) bm B a cap cone a2 cap2 nx :=
  ⟨h.c.grows ((Keeps.refl wr).alloc o), h.own.alloc o, h.ne1, h.ne2⟩
theorem NSt.push (h : NSt W0 wr bm B a cap cone a2 cap2 nx) {a' : Option Addr} {cap' : Nat} {nx' : List Int} (ho : OwnI w' B a' cap' nx') (hg : wr.grownBy w' (blk a2)) (hl : blk a' = blk a2 ∨ blk a' = some wr.heap.size) : NSt W0 w' bm B a cap cone a' cap' nx' := by
  refine ⟨h.c.keptBy hg h.ne1 (fun q hq => ⟨h.ne2 q hq, (h.own.blk_ge hq).1⟩), ho, fun e => ?_, fun q e e2 => ?_⟩
  · rcases hl with hl | hl
    · exact h.ne1 (hl ▸ e)
    · rw [hl] at e
      cases e
      have := h.c.set.1.lt
      omega
  · rcases hl with hl | hl
    · exact h.ne2 q (hl ▸ e) e2
    · rw [hl] at e
      cases e
      have := (h.c.own.blk_ge e2).2
      omega
/-- 'in[x] = true' -/
theorem NSt.mark (h : NSt W0 wr bm B a cap cone a2 cap2 nx) {y : Int} (hy : -2147483648 ≤ y ∧ y ≤ 2147483647) (hm : MapIs w' bm ((cone.map fun z => ((.int .i32 z : Value), (.bool true : Value))) ++ [(.int .i32 y, .bool true)])) (hg : wr.grownBy w' (some bm)) :
    OwnI w' B a cap cone ∧ SetIs w' bm (cone ++ [y]) ∧ Keeps W0 w' ∧ OwnI w' B a2 cap2 nx := by
  refine ⟨h.c.own.keptBy hg (fun g e e2 => h.c.ne (by rw [e, e2])), ⟨by rw [List.map_append]; exact hm, ?_⟩, Keeps.grown h.c.keep hg (fun k hk => by cases hk; rw [← h.c.B]; exact h.c.bB), h.own.keptBy hg (fun g e e2 => h.ne1 (by rw [e, e2]))⟩
  intro z hz
  rcases List.mem_append.1 hz with hz | hz
  · exact h.c.set.2 z hz
  · simp at hz; subst hz; exact hy
/-- 'cone = append(cone, x)' -/
theorem NSt.add (h : NSt W0 wr bm B a cap cone a2 cap2 nx) {y : Int} {w1 : World} (h1 : OwnI w1 B a cap cone ∧ SetIs w1 bm (cone ++ [y]) ∧ Keeps W0 w1 ∧ OwnI w1 B a2 cap2 nx) (o : Obj) {a' : Option Addr} {cap' : Nat}
    (ho : OwnI w' B a' cap' (cone ++ [y])) (hg : (w1.alloc o).grownBy w' (blk a)) (hl : blk a' = blk a ∨ blk a' = some (w1.alloc o).heap.size) : NSt W0 w' bm B a' cap' (cone ++ [y]) a2 cap2 nx := by
  obtain ⟨g1, g2, g3, g4⟩ := h1
  have hsz := g2.1.lt
  refine ⟨⟨ho, ?_, ?_, ?_, h.c.bB, h.c.B⟩, (g4.alloc o).keptBy hg (fun q e e2 => h.ne2 q e e2), h.ne1, fun q e e2 => ?_⟩
  · exact ⟨(g2.1.alloc o).keptBy hg h.c.ne, g2.2⟩
  · exact Keeps.grown (g3.alloc o) hg (fun k hk => by rw [← h.c.B]; exact (g1.blk_ge hk).1)
  · intro e
    rcases hl with hl | hl
    · exact h.c.ne (hl ▸ e)
    · rw [hl] at e
      cases e
      simp at hsz
      omega
  · rcases hl with hl | hl
    · exact h.ne2 q e (hl ▸ e2)
    · rw [hl] at e2
      cases e2
      have := (g4.blk_ge e).2
      simp at this
      omega
end Go.Proofs.Qxb6613887a
