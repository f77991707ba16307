import Derived.Test.Qxb6612559aRows
import Derived.WalkKit
import Derived.WalkSpells
import Derived.WalkLawsBesides
import Derived.Maps.Own
import Derived.Maps.OwnSet
import Derived.Sort.KeysCollected
namespace Go.Proofs.Qxb6612559a
open Go.RowKit

/-- Old memory is as it was; new blocks may have come. -/
def Keeps (w w' : World) : Prop := Below w.heap.size w w'

theorem cell_lt {w : World} {p : Addr} {u : Value} (h : w.cell? p = some u) : p.block < w.heap.size := by
  unfold World.cell? at h
  split at h
  · rename_i hb
    exact (Array.getElem?_eq_some_iff.1 hb).1
  · cases h

theorem Keeps.refl (w : World) : Keeps w w := Below.refl _ _
theorem Keeps.trans {a b c : World} (h : Keeps a b) (k : Keeps b c) : Keeps a c := Below.trans h (Below.mono k h.size)
theorem Keeps.drew {a w : World} (h : Keeps a w) : Keeps a w.drew := Below.drew h
theorem Keeps.alloc {a w : World} (h : Keeps a w) (o : Obj) : Keeps a (w.alloc o) := Below.alloc h h.size o
theorem Keeps.setCell {a w : World} (h : Keeps a w) {p : Addr} (hp : a.heap.size ≤ p.block) (u : Value) : Keeps a (w.setCell p u) := Below.setCell h hp u
theorem Keeps.cell {w w' : World} (h : Keeps w w') {p : Addr} {u : Value} (hc : w.cell? p = some u) : w'.cell? p = some u := by
  rw [Below.cell h (cell_lt hc)]; exact hc
theorem Keeps.obj {w w' : World} (h : Keeps w w') {b : Nat} {o : Obj} (hc : w.heap[b]? = some o) : w'.heap[b]? = some o := by
  rw [h.block b (Array.getElem?_eq_some_iff.1 hc).1]; exact hc

/-! ### slices -/

/-- A slice whose elements are one cell each; cell i holds what 'R' ties to xs[i]. -/
def RowOf {α : Type} (w : World) (R : Value → α → Prop) (v : Value) (xs : List α) : Prop :=
  xs.length ≤ maxLen ∧ ∃ a cap, v = .slice a xs.length cap ∧ (a = none → cap = 0) ∧
    (xs = [] ∨ ∃ b off, a = some ⟨b, off, none⟩ ∧ ∀ i (h : i < xs.length), ∃ u, w.cell? ⟨b, off + i, none⟩ = some u ∧ R u xs[i])

def IsI64 (u : Value) (z : Int) : Prop := u = .int .i64 z ∧ -9223372036854775808 ≤ z ∧ z ≤ 9223372036854775807
def IsStr (u : Value) (s : ByteArray) : Prop := u = .string s ∧ s.size ≤ maxLen

theorem RowOf.keep {α : Type} {w w' : World} {R : Value → α → Prop} {v : Value} {xs : List α} (h : RowOf w R v xs) (hb : Keeps w w') : RowOf w' R v xs := by
  obtain ⟨hm, a, cap, rfl, hn, hx⟩ := h
  refine ⟨hm, a, cap, rfl, hn, ?_⟩
  rcases hx with hx | ⟨b, off, ha, hc⟩
  · exact Or.inl hx
  · refine Or.inr ⟨b, off, ha, fun i hi => ?_⟩
    obtain ⟨u, h1, h2⟩ := hc i hi
    exact ⟨u, hb.cell h1, h2⟩
theorem RowOf.shape {α : Type} {w : World} {R : Value → α → Prop} {v : Value} {xs : List α} (h : RowOf w R v xs) : ∃ a cap, v = .slice a xs.length cap ∧ (a = none → cap = 0) := by
  obtain ⟨_, a, cap, rfl, hn, _⟩ := h
  exact ⟨a, cap, rfl, hn⟩
/-- The cell of element i. -/
theorem RowOf.at {α : Type} {w : World} {R : Value → α → Prop} {a : Option Addr} {len cap : Nat} {xs : List α} (h : RowOf w R (.slice a len cap) xs) {i : Nat} (hi : i < xs.length) :
    ∃ b off u, a = some ⟨b, off, none⟩ ∧ w.cell? ⟨b, off + i, none⟩ = some u ∧ R u xs[i] := by
  obtain ⟨_, a', cap', hv, _, hx⟩ := h
  cases hv
  rcases hx with hx | ⟨b, off, ha, hc⟩
  · simp [hx] at hi
  · obtain ⟨u, h1, h2⟩ := hc i hi
    exact ⟨b, off, u, ha, h1, h2⟩

/-! ### the two maps: one datum -/
abbrev Dat := DataW Unit

/-- How an element of map[string]any reads here: an int64 in it. -/
def anyElem : Value → Option (Dat × List MemPlace)
  | .iface 2 (.int .i64 a) => some (.lit (.int .i64 a), [])
  | _ => none
theorem anyElem_inv {v : Value} {y : Dat × List MemPlace} (h : anyElem v = some y) : ∃ a, v = .iface 2 (.int .i64 a) ∧ y = (.lit (.int .i64 a), []) := by
  unfold anyElem at h
  split at h
  · exact ⟨_, rfl, by cases h; rfl⟩
  · cases h

theorem K9 : Maps.Keyed Try.prog 9 := Maps.string_keyed Try.underlying9

/-- The value of a key. -/
def valAt (D : Dat) (x : List UInt8) : Int := match D.atKey (.string x) (.lit (.bool false)) with
  | .lit (.int _ c) => c
  | _ => 0

section
variable {w : World} {b n : Nat} {D : Dat}

theorem key_of {x : List UInt8} (hx : x.length ≤ maxLen) : keyOf Try.prog 9 (encStr x) = some (.string x) := by
  have := WideMaps.keyOf_string_mk (P := Try.prog) (k := 9) Try.underlying9 (s := ⟨x.toArray⟩) (by simpa [ByteArray.size] using hx)
  simpa [encStr] using this

theorem any_look (h : w.ownsMap Try.prog 9 anyElem b n D) {x : List UInt8} (hx : x.length ≤ maxLen) (hh : Maps.has D (.string x) = true) :
    (Instr.lookup 32 (.map (some b)) (encStr x) false).run Try.prog w = .ok (.iface 2 (.int .i64 (valAt D x))) w := by
  obtain ⟨es, clock, hb, F, _, rfl⟩ := h
  rcases Maps.fit_look false K9 Try.underlying32 (z := .nilIface) (by rfl) hb F (key_of hx) with ⟨_, _, hat⟩ | ⟨e0, y, _, _, hrun, hRv, hat, _⟩
  · rw [Maps.has_false_of_atKey hat] at hh; cases hh
  · obtain ⟨a, ha, rfl⟩ := anyElem_inv hRv
    rw [hrun, ha]
    simp only [valAt, hat]
    rfl

theorem last_look (h : w.ownsMap Try.prog 9 (plainElem Try.prog 2) b n D) {x : List UInt8} (hx : x.length ≤ maxLen) (hh : Maps.has D (.string x) = true) :
    (Instr.lookup 25 (.map (some b)) (encStr x) true).run Try.prog w = .ok (.tuple #[.int .i64 (valAt D x), .bool true]) w ∧ -9223372036854775808 ≤ valAt D x ∧ valAt D x ≤ 9223372036854775807 := by
  obtain ⟨es, clock, hb, F, _, rfl⟩ := h
  rcases Maps.fit_look true K9 Try.underlying25 (z := .int .i64 0) (by rfl) hb F (key_of hx) with ⟨_, _, hat⟩ | ⟨e0, y, _, _, hrun, hRv, hat, _⟩
  · rw [Maps.has_false_of_atKey hat] at hh; cases hh
  · obtain ⟨a, ha, rfl, hw⟩ := plainElem_int_inv Try.underlying2 hRv
    rw [hrun, ha]
    simp only [valAt, hat]
    simp only [Lit.wf, IntKind.min, IntKind.max, IntKind.signed, IntKind.bits] at hw
    simp at hw
    exact ⟨rfl, by omega, by omega⟩

/-- The names, sorted. -/
def names (D : Dat) : List (List UInt8) := (strKeys D).mergeSort leB

structure NamesOK (D : Dat) : Prop where
  len : (names D).length = Maps.size D
  has : ∀ x ∈ names D, Maps.has D (.string x) = true ∧ x.length ≤ maxLen
  lt : ∀ i (h : i + 1 < (names D).length), (names D)[i] < (names D)[i + 1]

theorem leB_trans (a b c : List UInt8) (h1 : leB a b = true) (h2 : leB b c = true) : leB a c = true := by
  simp only [leB, decide_eq_true_eq] at *; exact List.le_trans h1 h2
theorem leB_total (a b : List UInt8) : (leB a b || leB b a) = true := by
  simp only [leB, Bool.or_eq_true, decide_eq_true_eq]; exact List.le_total a b

theorem names_ok {R : Value → Option (Dat × List MemPlace)} (h : w.ownsMap Try.prog 9 R b n D) : NamesOK D := by
  obtain ⟨es, rfl, hk⟩ := h.keysOf
  obtain ⟨es', he, hp, _⟩ := h.entries K9
  cases he
  have hs : ∀ p ∈ es, ∃ x : List UInt8, p.1 = .string x ∧ x.length ≤ maxLen := fun p hp => by
    obtain ⟨key, hkey⟩ := hk p hp
    obtain ⟨x, _, hx, hl⟩ := Maps.keyOf_str Try.underlying9 hkey
    exact ⟨x, hx, hl⟩
  have hperm : (names (.map es)).Perm (strKeys (.map es)) := List.mergeSort_perm _ _
  have hnd : (strKeys (.map es)).Nodup := by
    show (es.map fun p => strOf p.1).Nodup
    refine List.pairwise_map.2 (hp.imp_of_mem fun {p q} hp' hq' hne e => hne ?_)
    obtain ⟨a, ha, _⟩ := hs p hp'
    obtain ⟨b, hb, _⟩ := hs q hq'
    rw [ha, hb] at e ⊢
    exact congrArg _ e
  have hnd' : (names (.map es)).Nodup := hperm.nodup_iff.2 hnd
  have hpw : (names (.map es)).Pairwise (fun a b => leB a b = true) := List.pairwise_mergeSort leB_trans leB_total _
  refine ⟨?_, fun x hx => ?_, fun i hi => ?_⟩
  · rw [hperm.length_eq]; simp [strKeys, Maps.size]
  · have hx' := hperm.mem_iff.1 hx
    obtain ⟨p, hp', rfl⟩ := List.mem_map.1 hx'
    obtain ⟨a, ha, hl⟩ := hs p hp'
    rw [ha]
    refine ⟨?_, hl⟩
    rw [Maps.has_eq, List.any_eq_true]
    exact ⟨p, hp', by rw [ha]; simp [Lit.sameKey, strOf]⟩
  · have h1 := List.pairwise_iff_getElem.1 hpw i (i + 1) (by omega) hi (by omega)
    have h2 := List.pairwise_iff_getElem.1 hnd' i (i + 1) (by omega) hi (by omega)
    simp only [leB, decide_eq_true_eq] at h1
    exact Std.lt_of_le_of_ne h1 h2
end
end Go.Proofs.Qxb6612559a
