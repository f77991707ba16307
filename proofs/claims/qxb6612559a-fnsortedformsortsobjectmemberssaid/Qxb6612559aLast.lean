import Derived.Test.Qxb6612559aMaps
import Derived.Deep.LoopGhost
namespace Go.Proofs.Qxb6612559a
open Go.RowKit

/-- The pairs laid one behind the other. -/
def datOf (ks : List ByteArray) (zs : List Int) : Nat → Dat
  | 0 => .map []
  | k + 1 => (datOf ks zs k).put (.string (ks.getD k ByteArray.empty).data.toList) (.lit (.int .i64 (zs.getD k 0)))

theorem getD_at {α : Type} {l : List α} {d : α} {i : Nat} (h : i < l.length) : l.getD i d = l[i] := by
  rw [List.getD_eq_getElem?_getD, List.getElem?_eq_getElem h]; rfl

theorem wf_i64 {z : Int} (h : -9223372036854775808 ≤ z ∧ z ≤ 9223372036854775807) : (Lit.int .i64 z).wf = true := by
  simp [Lit.wf, IntKind.min, IntKind.max, IntKind.signed, IntKind.bits]
  omega

theorem Keeps.grown {a w w' : World} {row : Option Nat} (h : Keeps a w) (hg : w.grownBy w' row) (hr : ∀ k, row = some k → a.heap.size ≤ k) : Keeps a w' := Below.grown h hg h.size hr

theorem make25 (n : Int) (w : World) : (Instr.makeMap 25 (some (.int .i64 n))).run Try.prog w = .ok (.map (some w.heap.size)) (w.alloc (.map #[] 0)) := by
  simp [Instr.makeMap, run_underlying Try.underlying25, asInt, asIntOf, Result.andThen]
theorem make32 (n : Int) (w : World) : (Instr.makeMap 32 (some (.int .i64 n))).run Try.prog w = .ok (.map (some w.heap.size)) (w.alloc (.map #[] 0)) := by
  simp [Instr.makeMap, run_underlying Try.underlying32, asInt, asIntOf, Result.andThen]

set_option maxHeartbeats 1000000 in
theorem last_any (v0 v1 : Value) (ks : List ByteArray) (zs : List Int) (w : World) (h0 : RowOf w IsStr v0 ks) (h1 : RowOf w IsI64 v1 zs) (hl : ks.length = zs.length) (hs : ks.length ≤ 65536) :
    Calls Try.prog 5 #[v0, v1] w fun e w' => (∃ b, e = .returned (.map (some b)) ∧ w'.ownsMap Try.prog 9 (plainElem Try.prog 2) b ks.length (datOf ks zs ks.length) ∧ w.heap.size ≤ b) ∧ Keeps w w' := by
  obtain ⟨a0, cap0, rfl, _⟩ := h0.shape
  obtain ⟨a1, cap1, rfl, _⟩ := h1.shape
  have hmm := make25
  go_enter Try.func5, Try.ntmps5
  go_wp2
  clear hmm
  go_loopg [6] ks.length (fun q i wr => ∃ (k : Nat), k + q = ks.length ∧ i = .int .i64 k ∧ wr.ownsMap Try.prog 9 (plainElem Try.prog 2) w.heap.size k (datOf ks zs k) ∧ Keeps w wr)
  case atStart => exact ⟨0, Nat.zero_add _, rfl, World.ownsMap_made _ _ _ _, (Keeps.refl w).alloc _⟩
  case round =>
    obtain ⟨k, hk, rfl, hM, hK⟩ := hrel
    by_cases hlt : k < ks.length
    · obtain ⟨b0, off0, x0, rfl, d0, ⟨rfl, s0⟩⟩ := (h0.keep hK).at hlt
      obtain ⟨b1, off1, x1, rfl, d1, ⟨rfl, s1⟩⟩ := (h1.keep hK).at (i := k) (by omega)
      obtain ⟨w1, hrun, hM1, hg1⟩ := hM.drew.update K9 Try.underlying25 (by unfold maxLen; omega) (WideMaps.keyOf_string_mk Try.underlying9 s0) (plainElem_int Try.underlying2 (wf_i64 s1))
      go_wp2
      go_region
      go_wp2
      go_roundg (ks.length - (k + 1))
      case rel => exact ⟨k + 1, by omega, by go_num, by rw [datOf, getD_at hlt, getD_at (by omega)]; exact hM1, Keeps.grown hK.drew hg1 (fun j hj => by cases hj; exact Nat.le_refl _)⟩
      case measure => omega
    · go_wp2
      go_ret
      obtain rfl : k = ks.length := by omega
      exact ⟨⟨_, rfl, hM, Nat.le_refl _⟩, hK⟩

set_option maxHeartbeats 1000000 in
theorem obj_any (v0 v1 : Value) (ks : List ByteArray) (zs : List Int) (w : World) (h0 : RowOf w IsStr v0 ks) (h1 : RowOf w IsI64 v1 zs) (hl : ks.length = zs.length) (hs : ks.length ≤ 65536) :
    Calls Try.prog 10 #[v0, v1] w fun e w' => (∃ b, e = .returned (.map (some b)) ∧ w'.ownsMap Try.prog 9 anyElem b ks.length (datOf ks zs ks.length) ∧ w.heap.size ≤ b) ∧ Keeps w w' := by
  obtain ⟨a0, cap0, rfl, _⟩ := h0.shape
  obtain ⟨a1, cap1, rfl, _⟩ := h1.shape
  have hmm := make32
  go_enter Try.func10, Try.ntmps10
  go_wp2
  clear hmm
  go_loopg [6] ks.length (fun q i wr => ∃ (k : Nat), k + q = ks.length ∧ i = .int .i64 k ∧ wr.ownsMap Try.prog 9 anyElem w.heap.size k (datOf ks zs k) ∧ Keeps w wr)
  case atStart => exact ⟨0, Nat.zero_add _, rfl, World.ownsMap_made _ _ _ _, (Keeps.refl w).alloc _⟩
  case round =>
    obtain ⟨k, hk, rfl, hM, hK⟩ := hrel
    have hkz : k < ks.length → k < zs.length := fun h => hl ▸ h
    clear hl
    by_cases hlt : k < ks.length
    · replace hkz := hkz hlt
      obtain ⟨b0, off0, x0, rfl, d0, ⟨rfl, s0⟩⟩ := (h0.keep hK).at hlt
      obtain ⟨b1, off1, x1, rfl, d1, ⟨rfl, s1⟩⟩ := (h1.keep hK).at (i := k) hkz
      obtain ⟨w1, hrun, hM1, hg1⟩ := hM.drew.update K9 Try.underlying32 (by unfold maxLen; omega) (WideMaps.keyOf_string_mk Try.underlying9 s0) (show anyElem (.iface 2 (.int .i64 zs[k])) = some (.lit (.int .i64 zs[k]), []) from rfl)
      go_wp2
      go_region
      go_wp2
      go_roundg (ks.length - (k + 1))
      case rel => exact ⟨k + 1, by omega, by go_num, by rw [datOf, getD_at hlt, getD_at hkz]; exact hM1, Keeps.grown hK.drew hg1 (fun j hj => by cases hj; exact Nat.le_refl _)⟩
      case measure => omega
    · go_wp2
      go_ret
      obtain rfl : k = ks.length := by omega
      exact ⟨⟨_, rfl, hM, Nat.le_refl _⟩, hK⟩

end Go.Proofs.Qxb6612559a
