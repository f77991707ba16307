import Derived.WalkKit
import Derived.WalkSpells
import Derived.WalkLawsBesides
import Derived.Maps.Keyed
import Derived.Maps.AppendAt
namespace Go.Proofs.Qxb6613887a
open Go.RowKit

/-- Old memory is as it was; new blocks may have come. -/
def Keeps (w w' : World) : Prop := Below w.heap.size w w'

theorem cell_lt {w : World} {p : Addr} {u : Value} (h : w.cell? p = some u) : p.block < w.heap.size := by
  unfold World.cell? at h
  split at h
  · rename_i hb
    exact (Array.getElem?_eq_some_iff.1 hb).1
  · cases h

theorem Keeps.refl (w : World) : Keeps w w := Below.refl _ _
theorem Keeps.trans {a b c : World} (h : Keeps a b) (k : Keeps b c) : Keeps a c := Below.trans h (Below.mono k h.size)
theorem Keeps.drew {a w : World} (h : Keeps a w) : Keeps a w.drew := Below.drew h
theorem Keeps.alloc {a w : World} (h : Keeps a w) (o : Obj) : Keeps a (w.alloc o) := Below.alloc h h.size o
theorem Keeps.setCell {a w : World} (h : Keeps a w) {p : Addr} (hp : a.heap.size ≤ p.block) (u : Value) : Keeps a (w.setCell p u) := Below.setCell h hp u
theorem Keeps.cell {w w' : World} (h : Keeps w w') {p : Addr} {u : Value} (hc : w.cell? p = some u) : w'.cell? p = some u := by
  rw [Below.cell h (cell_lt hc)]; exact hc
theorem Keeps.obj {w w' : World} (h : Keeps w w') {b : Nat} {o : Obj} (hc : w.heap[b]? = some o) : w'.heap[b]? = some o := by
  rw [h.block b (Array.getElem?_eq_some_iff.1 hc).1]; exact hc

/-! ### slices -/

/-- A slice whose elements are one cell each; cell i holds what 'R' ties to xs[i]. -/
def RowOf {α : Type} (w : World) (R : Value → α → Prop) (v : Value) (xs : List α) : Prop :=
  xs.length ≤ maxLen ∧ ∃ a cap, v = .slice a xs.length cap ∧ (a = none → cap = 0) ∧
    (xs = [] ∨ ∃ b off, a = some ⟨b, off, none⟩ ∧ ∀ i (h : i < xs.length), ∃ u, w.cell? ⟨b, off + i, none⟩ = some u ∧ R u xs[i])

/-- A slice whose elements are two cells each. -/
def PairOf {α : Type} (w : World) (R0 R1 : Value → α → Prop) (v : Value) (xs : List α) : Prop :=
  xs.length ≤ maxLen ∧ ∃ a cap, v = .slice a xs.length cap ∧ (a = none → cap = 0) ∧
    (xs = [] ∨ ∃ b off, a = some ⟨b, off, none⟩ ∧ ∀ i (h : i < xs.length), ∃ u0 u1, w.cell? ⟨b, off + i * 2, none⟩ = some u0 ∧ w.cell? ⟨b, off + i * 2 + 1, none⟩ = some u1 ∧ R0 u0 xs[i] ∧ R1 u1 xs[i])

def IsI32 (u : Value) (z : Int) : Prop := u = .int .i32 z ∧ -2147483648 ≤ z ∧ z ≤ 2147483647
def IsStr (u : Value) (s : ByteArray) : Prop := u = .string s ∧ s.size ≤ maxLen

theorem RowOf.keep {α : Type} {w w' : World} {R R' : Value → α → Prop} {v : Value} {xs : List α} (h : RowOf w R v xs) (hb : Keeps w w') (hR : ∀ u x, R u x → R' u x) : RowOf w' R' v xs := by
  obtain ⟨hm, a, cap, rfl, hn, hx⟩ := h
  refine ⟨hm, a, cap, rfl, hn, ?_⟩
  rcases hx with hx | ⟨b, off, ha, hc⟩
  · exact Or.inl hx
  · refine Or.inr ⟨b, off, ha, fun i hi => ?_⟩
    obtain ⟨u, h1, h2⟩ := hc i hi
    exact ⟨u, hb.cell h1, hR _ _ h2⟩

theorem PairOf.keep {α : Type} {w w' : World} {R0 R1 : Value → α → Prop} {v : Value} {xs : List α} (h : PairOf w R0 R1 v xs) (hb : Keeps w w') : PairOf w' R0 R1 v xs := by
  obtain ⟨hm, a, cap, rfl, hn, hx⟩ := h
  refine ⟨hm, a, cap, rfl, hn, ?_⟩
  rcases hx with hx | ⟨b, off, ha, hc⟩
  · exact Or.inl hx
  · refine Or.inr ⟨b, off, ha, fun i hi => ?_⟩
    obtain ⟨u0, u1, h1, h2, h3, h4⟩ := hc i hi
    exact ⟨u0, u1, hb.cell h1, hb.cell h2, h3, h4⟩

abbrev Role := ByteArray × ByteArray
abbrev Link := Int × ByteArray

def RowI (w : World) (v : Value) (zs : List Int) : Prop := RowOf w IsI32 v zs
def RowsI (w : World) (v : Value) (zss : List (List Int)) : Prop := RowOf w (RowI w) v zss
def PartsI (w : World) (v : Value) (zs : List (List (List Int))) : Prop := RowOf w (RowsI w) v zs
def RolesI (w : World) (v : Value) (rs : List Role) : Prop := PairOf w (fun u (r : Role) => IsStr u r.1) (fun u (r : Role) => IsStr u r.2) v rs
def LinkRow (w : World) (v : Value) (ls : List Link) : Prop := PairOf w (fun u (l : Link) => IsI32 u l.1) (fun u (l : Link) => IsStr u l.2) v ls
def LinksI (w : World) (v : Value) (ls : List (List Link)) : Prop := RowOf w (LinkRow w) v ls

theorem RowI.keep {w w' : World} {v : Value} {zs : List Int} (h : RowI w v zs) (hb : Keeps w w') : RowI w' v zs := RowOf.keep h hb fun _ _ h => h
theorem RowsI.keep {w w' : World} {v : Value} {zs : List (List Int)} (h : RowsI w v zs) (hb : Keeps w w') : RowsI w' v zs := RowOf.keep h hb fun _ _ h => RowI.keep h hb
theorem PartsI.keep {w w' : World} {v : Value} {zs : List (List (List Int))} (h : PartsI w v zs) (hb : Keeps w w') : PartsI w' v zs := RowOf.keep h hb fun _ _ h => RowsI.keep h hb
theorem RolesI.keep {w w' : World} {v : Value} {rs : List Role} (h : RolesI w v rs) (hb : Keeps w w') : RolesI w' v rs := PairOf.keep h hb
theorem LinkRow.keep {w w' : World} {v : Value} {ls : List Link} (h : LinkRow w v ls) (hb : Keeps w w') : LinkRow w' v ls := PairOf.keep h hb
theorem LinksI.keep {w w' : World} {v : Value} {ls : List (List Link)} (h : LinksI w v ls) (hb : Keeps w w') : LinksI w' v ls := RowOf.keep h hb fun _ _ h => LinkRow.keep h hb

theorem RowOf.shape {α : Type} {w : World} {R : Value → α → Prop} {v : Value} {xs : List α} (h : RowOf w R v xs) : ∃ a cap, v = .slice a xs.length cap ∧ (a = none → cap = 0) := by
  obtain ⟨_, a, cap, rfl, hn, _⟩ := h
  exact ⟨a, cap, rfl, hn⟩
theorem PairOf.shape {α : Type} {w : World} {R0 R1 : Value → α → Prop} {v : Value} {xs : List α} (h : PairOf w R0 R1 v xs) : ∃ a cap, v = .slice a xs.length cap ∧ (a = none → cap = 0) := by
  obtain ⟨_, a, cap, rfl, hn, _⟩ := h
  exact ⟨a, cap, rfl, hn⟩

/-- The cell of element i. -/
theorem RowOf.at {α : Type} {w : World} {R : Value → α → Prop} {a : Option Addr} {len cap : Nat} {xs : List α} (h : RowOf w R (.slice a len cap) xs) {i : Nat} (hi : i < xs.length) :
    ∃ b off u, a = some ⟨b, off, none⟩ ∧ w.cell? ⟨b, off + i, none⟩ = some u ∧ R u xs[i] := by
  obtain ⟨_, a', cap', hv, _, hx⟩ := h
  cases hv
  rcases hx with hx | ⟨b, off, ha, hc⟩
  · simp [hx] at hi
  · obtain ⟨u, h1, h2⟩ := hc i hi
    exact ⟨b, off, u, ha, h1, h2⟩
theorem PairOf.at {α : Type} {w : World} {R0 R1 : Value → α → Prop} {a : Option Addr} {len cap : Nat} {xs : List α} (h : PairOf w R0 R1 (.slice a len cap) xs) {i : Nat} (hi : i < xs.length) :
    ∃ b off u0 u1, a = some ⟨b, off, none⟩ ∧ w.cell? ⟨b, off + i * 2, none⟩ = some u0 ∧ w.cell? ⟨b, off + i * 2 + 1, none⟩ = some u1 ∧ R0 u0 xs[i] ∧ R1 u1 xs[i] := by
  obtain ⟨_, a', cap', hv, _, hx⟩ := h
  cases hv
  rcases hx with hx | ⟨b, off, ha, hc⟩
  · simp [hx] at hi
  · obtain ⟨u0, u1, h1, h2, h3, h4⟩ := hc i hi
    exact ⟨b, off, u0, u1, ha, h1, h2, h3, h4⟩

/-! ### maps that the call makes -/

/-- Block b is a map; its entries, in the order in which they came. -/
def MapIs (w : World) (b : Nat) (kvs : List (Value × Value)) : Prop :=
  ∃ es clock, w.heap[b]? = some (.map es clock) ∧ es.toList.map (fun e => (e.key, e.val)) = kvs

theorem MapIs.keep {w w' : World} {b : Nat} {kvs : List (Value × Value)} (h : MapIs w b kvs) (hb : Keeps w w') : MapIs w' b kvs := by
  obtain ⟨es, clock, h1, h2⟩ := h
  exact ⟨es, clock, hb.obj h1, h2⟩
theorem MapIs.lt {w : World} {b : Nat} {kvs : List (Value × Value)} (h : MapIs w b kvs) : b < w.heap.size := by
  obtain ⟨es, clock, h1, h2⟩ := h
  exact (Array.getElem?_eq_some_iff.1 h1).1

section
variable {P : Program} {k : TypeId}
open Go.Maps (Keyed)

/-- A look-up where the key is not there. -/
theorem MapIs.look_none {w : World} {b : Nat} {kvs : List (Value × Value)} (h : MapIs w b kvs) (K : Keyed P k) {t e : TypeId} (ht : P.underlying t = some (.map k e)) (hks : ∀ p ∈ kvs, ∃ l, keyOf P k p.1 = some l)
    {x : Value} {lx : Lit} (hx : keyOf P k x = some lx) (hno : ∀ p ∈ kvs, p.1 ≠ x) {z : Value} (hz : (zeroValue e).run P w = .ok z w) (c : Bool) :
    (Instr.lookup t (.map (some b)) x c).run P w = .ok (if c then .tuple #[z, .bool false] else z) w := by
  obtain ⟨es, clock, h1, h2⟩ := h
  have hes : ∀ e ∈ es.toList, (e.key, e.val) ∈ kvs := fun e he => by rw [← h2]; exact List.mem_map.2 ⟨e, he, rfl⟩
  rcases K.find w hx es.toList (fun e he => hks _ (hes e he)) with ⟨hr, _⟩ | ⟨j, e0, hr, hj, he0⟩
  · have hck := K.check w es.isEmpty hx
    simp [Instr.lookup, run_underlying ht, MapKept.run_getObj_map h1, hck, hr, hz, Result.andThen]
  · exact absurd he0 (hno _ (hes e0 (List.mem_of_getElem? hj)))

/-- A look-up where the key is there, once. -/
theorem MapIs.look_some {w : World} {b : Nat} {kvs : List (Value × Value)} (h : MapIs w b kvs) (K : Keyed P k) {t e : TypeId} (ht : P.underlying t = some (.map k e)) (hks : ∀ p ∈ kvs, ∃ l, keyOf P k p.1 = some l)
    {x v : Value} {lx : Lit} (hx : keyOf P k x = some lx) (hin : ∃ p ∈ kvs, p.1 = x) (hall : ∀ p ∈ kvs, p.1 = x → p.2 = v) (c : Bool) :
    (Instr.lookup t (.map (some b)) x c).run P w = .ok (if c then .tuple #[v, .bool true] else v) w := by
  obtain ⟨es, clock, h1, h2⟩ := h
  have hes : ∀ e ∈ es.toList, (e.key, e.val) ∈ kvs := fun e he => by rw [← h2]; exact List.mem_map.2 ⟨e, he, rfl⟩
  rcases K.find w hx es.toList (fun e he => hks _ (hes e he)) with ⟨hr, hno⟩ | ⟨j, e0, hr, hj, he0⟩
  · obtain ⟨p, hp, hpx⟩ := hin
    rw [← h2] at hp
    obtain ⟨e1, he1, rfl⟩ := List.mem_map.1 hp
    exact absurd hpx (hno e1 he1)
  · have hck := K.check w es.isEmpty hx
    have hv : e0.val = v := hall _ (hes e0 (List.mem_of_getElem? hj)) he0
    simp [Instr.lookup, run_underlying ht, MapKept.run_getObj_map h1, hck, hr, hv, Result.andThen]

/-- A store at a key that is not there. -/
theorem MapIs.store {w : World} {b : Nat} {kvs : List (Value × Value)} (h : MapIs w b kvs) (K : Keyed P k) {t e : TypeId} (ht : P.underlying t = some (.map k e)) (hks : ∀ p ∈ kvs, ∃ l, keyOf P k p.1 = some l)
    {x : Value} {lx : Lit} (hx : keyOf P k x = some lx) (hno : ∀ p ∈ kvs, p.1 ≠ x) (v : Value) :
    ∃ w', (Instr.mapUpdate t (.map (some b)) x v).run P w = .ok () w' ∧ MapIs w' b (kvs ++ [(x, v)]) ∧ w.grownBy w' (some b) := by
  obtain ⟨es, clock, h1, h2⟩ := h
  have hes : ∀ e ∈ es.toList, (e.key, e.val) ∈ kvs := fun e he => by rw [← h2]; exact List.mem_map.2 ⟨e, he, rfl⟩
  rcases K.find w hx es.toList (fun e he => hks _ (hes e he)) with ⟨hr, _⟩ | ⟨j, e0, hr, hj, he0⟩
  · have hck := K.check w false hx
    refine ⟨ChangeMaps.setBlock w b (.map (es.push ⟨x, v, clock⟩) (clock + 1)), ?_, ⟨es.push ⟨x, v, clock⟩, clock + 1, ChangeMaps.heap_setBlock_same h1 _, ?_⟩, ⟨rfl, rfl, rfl, by simp [ChangeMaps.setBlock], fun i _ hi => ChangeMaps.heap_setBlock_other h1 _ (fun e => hi (by rw [e]))⟩⟩
    · simp [Instr.mapUpdate, run_underlying ht, MapKept.run_getObj_map h1, hck, hr, MapKept.run_setObj_map _ h1, Result.andThen, ChangeMaps.setBlock]
    · simp [h2]
  · exact absurd he0 (hno _ (hes e0 (List.mem_of_getElem? hj)))

theorem wpList_store_new {ops : Array Oper} {rest : List Oper} {o : Oper} {a : Act} {Q : Exit → Act → World → Prop} {w : World}
    (hg : o.guard = none) (m x y : Operand) (t : TypeId) (hop : o.op = Op.mapUpdate t m x y) {e : TypeId} (K : Keyed P k) (ht : P.underlying t = some (.map k e)) (b : Nat) (kvs : List (Value × Value)) (hm : a.eval m = .map (some b)) (hown : MapIs w b kvs)
    (hks : ∀ p ∈ kvs, ∃ l, keyOf P k p.1 = some l) (key v : Value) (hx : a.eval x = key) (hy : a.eval y = v) (lx : Lit) (hkey : keyOf P k key = some lx) (hno : ∀ p ∈ kvs, p.1 ≠ key)
    (hK : ∀ w', MapIs w' b (kvs ++ [(key, v)]) → w.grownBy w' (some b) → wpList P ops Q rest (a.put o.dst undef) w') :
    wpList P ops Q (o :: rest) a w := by
  refine wpList_plain hg fun K' hK' => ?_
  obtain ⟨w', hrun, h1, h2⟩ := hown.store K ht hks hkey hno v
  unfold Oper.wp
  simp [execOp, hop, hm, hx, hy, hrun, Result.andThen]
  exact hK' _ _ (hK w' h1 h2)
end

end Go.Proofs.Qxb6613887a
