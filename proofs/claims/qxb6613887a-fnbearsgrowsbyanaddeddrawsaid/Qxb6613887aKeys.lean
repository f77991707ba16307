import Derived.Test.Qxb6613887aLeaf
import Derived.DeepKeys4
import Derived.Deep.QuietTactic
import Derived.BigQuiet
namespace Go.Proofs.Qxb6613887a
open Go.RowKit
open Go.Maps (Keyed)

theorem i32Keyed : Keyed Try.prog 21 := Go.Maps.int_keyed Try.underlying21
theorem laidOut : laidOutB Try.prog = true := by kernel_rfl
theorem row48 : (48 : TypeId) < Try.prog.types.size := of_decide_eq_true (by kernel_rfl)
theorem wide48 : (match Try.prog.underlying 48 with | some (.array _ _) | some (.struct _) => true | _ => false) = true := by rw [Try.underlying48]
theorem roleKeyed : Keyed Try.prog 48 := Keyed.of_law (deep_law_laid laidOut (m := 3) (by omega) row48 (by kernel_rfl) wide48)
theorem cells48 : Try.prog.cellsOf 48 = 2 := by kernel_rfl
theorem cells46 : Try.prog.cellsOf 46 = 1 := by kernel_rfl
theorem keyType48 : Try.prog.keyType 48 = true := by kernel_rfl
def roleV (r : Role) : Value := .agg #[.string r.1, .string r.2]
theorem key_role (r : Role) (h1 : r.1.size ≤ maxLen) (h2 : r.2.size ≤ maxLen) : ∃ l, keyOf Try.prog 48 (roleV r) = some l := by
  have hf : (roleV r).formed Try.prog 48 = true := by simp [roleV, Value.formed, Try.underlying48, cells48]
  unfold keyOf
  rw [Try.underlying48]
  simp only [keyType48, hf, Bool.and_self, if_true]
  obtain ⟨m, hm⟩ : ∃ m, Try.prog.types.size + 1 = m + 2 := ⟨Try.prog.types.size - 1, by have h : (48 : Nat) < Try.prog.types.size := row48; omega⟩
  rw [hm]
  simp [Program.keyLits, roleV, Value.cells, Try.underlying48, Try.underlying46, cells48, cells46, h1, h2]
theorem key_i32 {z : Int} (h : -2147483648 ≤ z ∧ z ≤ 2147483647) : keyOf Try.prog 21 (.int .i32 z) = some (.int .i32 z) :=
  Go.Maps.keyOf_int_mk Try.underlying21 (by simp only [Lit.wf, IntKind.min, IntKind.max, IntKind.signed, IntKind.bits]; simp; omega)

/-- The set of the numbers zs. -/
def SetIs (w : World) (b : Nat) (zs : List Int) : Prop := MapIs w b (zs.map fun z => (.int .i32 z, .bool true)) ∧ ∀ z ∈ zs, -2147483648 ≤ z ∧ z ≤ 2147483647
theorem SetIs.keep {w w' : World} {b : Nat} {zs : List Int} (h : SetIs w b zs) (hb : Keeps w w') : SetIs w' b zs := ⟨h.1.keep hb, h.2⟩
theorem zero4 (w : World) : (zeroValue 4).run Try.prog w = .ok (.bool false) w := by kernel_rfl
theorem zero21 (w : World) : (zeroValue 21).run Try.prog w = .ok (.int .i32 0) w := by kernel_rfl

theorem SetIs.keys {zs : List Int} (h : ∀ z ∈ zs, -2147483648 ≤ z ∧ z ≤ 2147483647) : ∀ p ∈ zs.map (fun z => ((.int .i32 z : Value), (.bool true : Value))), ∃ l, keyOf Try.prog 21 p.1 = some l := by
  intro p hp
  obtain ⟨z, hz, rfl⟩ := List.mem_map.1 hp
  exact ⟨_, key_i32 (h z hz)⟩

theorem SetIs.look {w : World} {b : Nat} {zs : List Int} (h : SetIs w b zs) {x : Int} (hx : -2147483648 ≤ x ∧ x ≤ 2147483647) :
    (Instr.lookup 40 (.map (some b)) (.int .i32 x) false).run Try.prog w = .ok (.bool (zs.contains x)) w := by
  by_cases hc : x ∈ zs
  · rw [h.1.look_some i32Keyed Try.underlying40 (SetIs.keys h.2) (key_i32 hx) (v := .bool true) ⟨_, List.mem_map.2 ⟨x, hc, rfl⟩, rfl⟩ (fun p hp _ => by obtain ⟨z, _, rfl⟩ := List.mem_map.1 hp; rfl)]
    simp [hc]
  · rw [h.1.look_none i32Keyed Try.underlying40 (SetIs.keys h.2) (key_i32 hx) (fun p hp e => by obtain ⟨z, hz, rfl⟩ := List.mem_map.1 hp; simp at e; subst e; exact hc hz) (zero4 w)]
    simp [hc]

/-- The numbers of the roles. -/
def IndexIs (w : World) (b : Nat) (rs : List Role) : Prop := MapIs w b (rs.zipIdx.map fun p => (roleV p.1, .int .i32 (p.2 : Int))) ∧ (∀ r ∈ rs, r.1.size ≤ maxLen ∧ r.2.size ≤ maxLen) ∧ rs.Nodup
theorem IndexIs.keep {w w' : World} {b : Nat} {rs : List Role} (h : IndexIs w b rs) (hb : Keeps w w') : IndexIs w' b rs := ⟨h.1.keep hb, h.2⟩
theorem roleV_inj {r s : Role} (h : roleV r = roleV s) : r = s := by
  simp [roleV] at h
  exact Prod.ext h.1 h.2
theorem IndexIs.keys {rs : List Role} (h : ∀ r ∈ rs, r.1.size ≤ maxLen ∧ r.2.size ≤ maxLen) (m : Nat) : ∀ p ∈ (rs.zipIdx m).map (fun p => ((roleV p.1 : Value), (.int .i32 (p.2 : Int) : Value))), ∃ l, keyOf Try.prog 48 p.1 = some l := by
  intro p hp
  obtain ⟨z, hz, rfl⟩ := List.mem_map.1 hp
  have := h z.1 (List.fst_mem_of_mem_zipIdx hz)
  exact key_role z.1 this.1 this.2

theorem IndexIs.look_hit {w : World} {b : Nat} {rs : List Role} (h : IndexIs w b rs) {i : Nat} (hi : i < rs.length) :
    (Instr.lookup 60 (.map (some b)) (roleV rs[i]) true).run Try.prog w = .ok (.tuple #[.int .i32 (i : Int), .bool true]) w := by
  obtain ⟨hm, hs, hd⟩ := h
  have hb := hs rs[i] (List.getElem_mem hi)
  obtain ⟨l, hl⟩ := key_role rs[i] hb.1 hb.2
  rw [hm.look_some roleKeyed Try.underlying60 (IndexIs.keys hs 0) hl (v := .int .i32 (i : Int)) ⟨(roleV rs[i], .int .i32 (i : Int)), List.mem_map.2 ⟨(rs[i], i), by rw [List.mem_zipIdx_iff_getElem?]; simp [hi], rfl⟩, rfl⟩ (fun p hp e => by
    obtain ⟨⟨z, j⟩, hz, rfl⟩ := List.mem_map.1 hp
    rw [List.mem_zipIdx_iff_getElem?] at hz
    have hz' := List.getElem?_eq_some_iff.1 hz
    obtain ⟨hj, hzj⟩ := hz'
    have e' := roleV_inj e
    simp only at e' hj hzj ⊢
    have : j = i := (List.getElem_inj hd).1 (by rw [hzj]; exact e')
    rw [this])]
  simp

theorem IndexIs.look_miss {w : World} {b : Nat} {rs : List Role} (h : IndexIs w b rs) {r : Role} (h1 : r.1.size ≤ maxLen) (h2 : r.2.size ≤ maxLen) (hr : r ∉ rs) :
    (Instr.lookup 60 (.map (some b)) (roleV r) true).run Try.prog w = .ok (.tuple #[.int .i32 0, .bool false]) w := by
  obtain ⟨hm, hs, hd⟩ := h
  obtain ⟨l, hl⟩ := key_role r h1 h2
  rw [hm.look_none roleKeyed Try.underlying60 (IndexIs.keys hs 0) hl (fun p hp e => by
    obtain ⟨z, hz, rfl⟩ := List.mem_map.1 hp
    have := roleV_inj e
    exact hr (this ▸ List.fst_mem_of_mem_zipIdx hz)) (zero21 w)]
  simp
end Go.Proofs.Qxb6613887a
