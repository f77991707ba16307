import Derived.Test.Qxb6613887aShape2
import Derived.Deep.LoopGhost
import Derived.Deep.OwnRows
import Derived.Maps.OwnOps
import Derived.Test.Qxb6613887aPlain
namespace Go.Proofs.Qxb6613887a
open Go.RowKit

theorem info21 : (Try.prog.info? 21).map (fun i => (i.zero, i.size, i.bytes)) = some (some (.int .i32 0), 1, 4) := by kernel_rfl

theorem addr_plain (b off i : Nat) : (⟨b, off, none⟩ : Addr).add i = ⟨b, off + i, none⟩ := by unfold Addr.add; split <;> simp_all
/-- The block of an address. -/
def blk (a : Option Addr) : Option Nat := a.map (·.block)

/-- A row of numbers of the call's own, from block B on. -/
def OwnI (w : World) (B : Nat) (a : Option Addr) (cap : Nat) (zs : List Int) : Prop :=
  w.ownsRow B 21 1 (.slice a zs.length cap) zs.length (zs.map (.int .i32 ·))

theorem ownBlock_blk (a : Option Addr) (n c : Nat) : Value.ownBlock (.slice a n c) = blk a := by cases a <;> rfl

theorem OwnI.cap {w : World} {B : Nat} {a : Option Addr} {cap : Nat} {zs : List Int} (h : OwnI w B a cap zs) : zs.length ≤ cap ∧ cap ≤ maxLen ∧ (a = none → cap = 0) := by
  rcases h.2 with ⟨hv, hn⟩ | ⟨g, c, cur, hv, _, _, h1, h2, _⟩
  · simp only [Value.slice.injEq] at hv
    obtain ⟨rfl, h1, rfl⟩ := hv
    simp [hn]
  · cases hv; exact ⟨h1, h2, fun h => by cases h⟩

/-- Where it lies. -/
theorem OwnI.at {w : World} {B : Nat} {a : Option Addr} {cap : Nat} {zs : List Int} (h : OwnI w B a cap zs) : (a = none ∧ zs = []) ∨ ∃ g, a = some ⟨g, 0, none⟩ ∧ B ≤ g ∧ g < w.heap.size := by
  rcases h.2 with ⟨hv, hn⟩ | ⟨g, c, cur, hv, hb, hg, h1, h2, _⟩
  · simp only [Value.slice.injEq] at hv
    obtain ⟨rfl, h1, rfl⟩ := hv
    exact Or.inl ⟨rfl, List.eq_nil_of_length_eq_zero hn⟩
  · cases hv; exact Or.inr ⟨g, rfl, hb, (Array.getElem?_eq_some_iff.1 hg).1⟩

theorem OwnI.keptBy {w w' : World} {B : Nat} {a : Option Addr} {cap : Nat} {zs : List Int} {row : Option Nat} (h : OwnI w B a cap zs) (hg : w.grownBy w' row) (hne : ∀ g, blk a = some g → row ≠ some g) : OwnI w' B a cap zs := by
  refine ⟨h.1, ?_⟩
  rcases h.2 with h2 | ⟨g, c, cur, hv, hb, hh, r⟩
  · exact Or.inl h2
  · refine Or.inr ⟨g, c, cur, hv, hb, ?_, r⟩
    cases hv
    rw [hg.block g (Array.getElem?_eq_some_iff.1 hh).1 (fun e => hne g rfl e.symm)]
    exact hh

theorem OwnI.alloc {w : World} {B : Nat} {a : Option Addr} {cap : Nat} {zs : List Int} (h : OwnI w B a cap zs) (o : Obj) : OwnI (w.alloc o) B a cap zs := World.ownsRow.alloc h o

/-- The numbers read. -/
theorem OwnI.row {w : World} {B : Nat} {a : Option Addr} {cap : Nat} {zs : List Int} (h : OwnI w B a cap zs) (hz : ∀ z ∈ zs, -2147483648 ≤ z ∧ z ≤ 2147483647) : RowI w (.slice a zs.length cap) zs := by
  obtain ⟨h1, h2, h3⟩ := h.cap
  refine ⟨Nat.le_trans h1 h2, a, cap, rfl, h3, ?_⟩
  rcases h.2 with ⟨hv, hn⟩ | ⟨g, c, cur, hv, hb, hh, _, _, hs, ht⟩
  · exact Or.inl (List.eq_nil_of_length_eq_zero hn)
  · cases hv
    refine Or.inr ⟨g, 0, rfl, fun i hi => ⟨.int .i32 zs[i], ?_, rfl, hz _ (List.getElem_mem hi)⟩⟩
    have e : cur.toList[i]? = some (.int .i32 zs[i]) := by
      have : (cur.toList.take (zs.length * 1))[i]? = some (.int .i32 zs[i]) := by rw [ht]; simp [hi]
      rw [List.getElem?_take] at this
      simpa [hi] using this
    simp [World.cell?, hh]
    simpa using e

theorem run_pushI {w : World} {B : Nat} {a : Option Addr} {cap : Nat} {zs news : List Int} (ty : TypeId) (h : OwnI w B a cap zs) {x : Value} (hx : RowI w x news) (hb : (zs.length + news.length) * 4 ≤ 140737488355328) (hB : B ≤ w.heap.size) :
    ∃ a' cap' w', (Builtin.append_ #[38, 38] ty #[.slice a zs.length cap, x]).run Try.prog w = .ok (.slice a' (zs ++ news).length cap') w' ∧ OwnI w' B a' cap' (zs ++ news) ∧ w.grownBy w' (blk a) ∧ (blk a' = blk a ∨ blk a' = some w.heap.size) := by
  obtain ⟨i, hi, hz0, hz1, hz2⟩ := info_parts info21
  obtain ⟨hm, ax, cx, rfl, hnone, hcell⟩ := hx
  cases ax with
  | none =>
    have hn : news = [] := by
      rcases hcell with h | ⟨b, off, e, _⟩
      · exact h
      · cases e
    subst hn
    have hc := h.cap
    refine ⟨a, cap, w, ?_, by simpa using h, ⟨rfl, rfl, rfl, Nat.le_refl _, fun _ _ _ => rfl⟩, Or.inl rfl⟩
    rcases h.at with ⟨rfl, rfl⟩ | ⟨g, rfl, _⟩
    · simp [Builtin.append_, run_underlying Try.underlying38, sizeOf, typeInfo, hi, Builtin.lenOf, Builtin.firstCells]
    · simp [Builtin.append_, run_underlying Try.underlying38, sizeOf, typeInfo, hi, Builtin.lenOf, Builtin.firstCells, hc.1, storeCells]
  | some ad =>
    obtain ⟨v', w', hr, h2, h3, h4, h5⟩ := run_append_own_at (P := Try.prog) w B 38 ty 21 i (.int .i32 0) 1 4 Try.underlying38 hi hz0 hz1 hz2 rfl (by decide) (.slice a zs.length cap) zs.length (zs.map (.int .i32 ·)) h ad news.length cx (news.map (.int .i32 ·)) (by simp)
      (fun j u hu => by
        rcases hcell with rfl | ⟨b, off, e, hc⟩
        · simp at hu
        · cases e
          have hj : j < news.length := by
            have := (List.getElem?_eq_some_iff.1 hu).1
            simpa using this
          obtain ⟨u', hu', hu2, _⟩ := hc j hj
          have : u = .int .i32 news[j] := by simpa [hj] using hu.symm
          rw [this, ← hu2, addr_plain]
          exact hu')
      (fun u hu => by obtain ⟨z, _, rfl⟩ := List.mem_map.1 hu; rfl) (by unfold maxLen; omega) hb hB
    have hsh : ∃ a' cap', v' = .slice a' (zs ++ news).length cap' := by
      rcases h2.2 with ⟨hv, hn⟩ | ⟨g, c, cur, hv, _⟩
      · exact ⟨none, 0, by rw [hv]; congr 1; rw [List.length_append]; omega⟩
      · exact ⟨_, c, by rw [hv]; congr 1; rw [List.length_append]⟩
    obtain ⟨a', cap', rfl⟩ := hsh
    rw [ownBlock_blk] at h3
    rw [ownBlock_blk, ownBlock_blk] at h5
    refine ⟨a', cap', w', hr, ?_, h3, h5⟩
    unfold OwnI
    rw [List.map_append]
    rw [← List.length_append] at h2
    exact h2

theorem wpList_pushI {ops : Array Oper} {rest : List Oper} {o : Oper} {act : Act} {Q : Exit → Act → World → Prop} {w : World} (hgd : o.guard = none) (s x : Operand)
    (ho : o.op = .call { callee := .builtin .append, args := #[s, x], argTypes := #[38, 38] }) {B : Nat} {a : Option Addr} {cap : Nat} {zs news : List Int} (h : OwnI w B a cap zs) (hs : act.eval s = .slice a zs.length cap)
    (xv : Value) (hxe : act.eval x = xv) (hx : RowI w xv news) (hb : (zs.length + news.length) * 4 ≤ 140737488355328) (hB : B ≤ w.heap.size)
    (hK : ∀ a' cap' w', OwnI w' B a' cap' (zs ++ news) → w.grownBy w' (blk a) → (blk a' = blk a ∨ blk a' = some w.heap.size) → wpList Try.prog ops Q rest (act.put o.dst (.slice a' (zs ++ news).length cap')) w') :
    wpList Try.prog ops Q (o :: rest) act w := by
  refine wpList_plain hgd fun K hK' => ?_
  obtain ⟨a', cap', w', hr, h1, h2, h3⟩ := run_pushI o.type h hx hb hB
  unfold Oper.wp execOp
  simp only [ho, resolve, invoke, builtin, Sem.run_bind, Sem.run_pure, Result.andThen_ok, List.map_toArray, List.map_cons, List.map_nil, hs, hxe, hr]
  exact hK' _ _ (hK a' cap' w' h1 h2 h3)

/-- The one cell that is laid for what is appended. -/
theorem rowI_one (w : World) {y : Int} (hy : -2147483648 ≤ y ∧ y ≤ 2147483647) : RowI (w.alloc (.cells #[.int .i32 y] 21)) (.slice (some ⟨w.heap.size, 0, none⟩) 1 1) [y] :=
  ⟨by simp [maxLen], _, 1, rfl, (fun h => by cases h), Or.inr ⟨_, _, rfl, fun i hi => by
    have : i = 0 := by simpa using hi
    subst this
    exact ⟨.int .i32 y, by simp [go_sem], rfl, hy⟩⟩⟩

theorem rowIs_kept {w w' : World} {b : Nat} {t : TypeId} {n : Nat} {f : Nat → Value} {row : Option Nat} (h : w.rowIs b t n f) (hg : w.grownBy w' row) (hne : row ≠ some b) : w'.rowIs b t n f :=
  h.of_block (hg.block b h.lt (fun e => hne e.symm))
theorem Keeps.grown {a w w' : World} {row : Option Nat} (h : Keeps a w) (hg : w.grownBy w' row) (hr : ∀ k, row = some k → a.heap.size ≤ k) : Keeps a w' := Below.grown h hg h.size hr
theorem Keeps.lt {a w : World} (h : Keeps a w) : a.heap.size ≤ w.heap.size := h.size

theorem OwnI.blk_ge {w : World} {B : Nat} {a : Option Addr} {cap : Nat} {zs : List Int} (h : OwnI w B a cap zs) {g : Nat} (hg : blk a = some g) : B ≤ g ∧ g < w.heap.size := by
  rcases h.at with ⟨rfl, _⟩ | ⟨g', rfl, h1, h2⟩
  · cases hg
  · cases hg; exact ⟨h1, h2⟩
theorem OwnI.setCell {w : World} {B : Nat} {a : Option Addr} {cap : Nat} {zs : List Int} (h : OwnI w B a cap zs) {p : Addr} (hp : blk a ≠ some p.block) (u : Value) : OwnI (w.setCell p u) B a cap zs := by
  refine ⟨h.1, ?_⟩
  rcases h.2 with h2 | ⟨g, c, cur, hv, hb, hh, r⟩
  · exact Or.inl h2
  · refine Or.inr ⟨g, c, cur, hv, hb, ?_, r⟩
    cases hv
    rw [Below.heap_setCell _ _ _ _ (fun e => hp (by rw [e]; rfl))]
    exact hh
end Go.Proofs.Qxb6613887a
