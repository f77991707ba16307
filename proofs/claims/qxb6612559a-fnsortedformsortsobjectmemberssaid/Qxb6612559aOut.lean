import Derived.Test.Qxb6612559aForm
import Derived.Deep.OwnRows
namespace Go.Proofs.Qxb6612559a
open Go.RowKit

/-- A slice of members: a name and an int64 in an interface value each. -/
def MembersAt (w : World) (v : Value) (ps : List (List UInt8 × Int)) : Prop :=
  ∃ g cap, v = .slice (some ⟨g, 0, none⟩) ps.length cap ∧ ∀ i (h : i < ps.length), w.cell? ⟨g, i * 2, none⟩ = some (encStr ps[i].1) ∧ w.cell? ⟨g, i * 2 + 1, none⟩ = some (.iface 2 (.int .i64 ps[i].2))

theorem MembersAt.keep {w w' : World} {v : Value} {ps : List (List UInt8 × Int)} (h : MembersAt w v ps) (hk : Keeps w w') : MembersAt w' v ps := by
  obtain ⟨g, cap, rfl, hc⟩ := h
  exact ⟨g, cap, rfl, fun i hi => ⟨hk.cell (hc i hi).1, hk.cell (hc i hi).2⟩⟩

theorem rowIs_row {α : Type} {w : World} {b : Nat} {t : TypeId} {xs : List α} {f : Nat → Value} {R : Value → α → Prop} (h : w.rowIs b t xs.length f) (hs : xs.length ≤ 65536) (hR : ∀ i (hi : i < xs.length), R (f i) xs[i]) : RowOf w R (.slice (some ⟨b, 0, none⟩) xs.length xs.length) xs :=
  ⟨by unfold maxLen; omega, _, _, rfl, (fun e => by cases e), Or.inr ⟨b, 0, rfl, fun i hi => ⟨f i, by rw [Nat.zero_add]; exact h.cell hi, hR i hi⟩⟩⟩

theorem info9 : (Try.prog.info? 9).map (fun i => (i.zero, i.size, i.bytes)) = some (some (.string ByteArray.empty), 1, 16) := by kernel_rfl
theorem info2 : (Try.prog.info? 2).map (fun i => (i.zero, i.size, i.bytes)) = some (some (.int .i64 0), 1, 8) := by kernel_rfl

def nameAt (ps : List (List UInt8 × Int)) (k i : Nat) : Value := if i < k then encStr (ps.getD i ([], 0)).1 else .string ByteArray.empty
def valueAt (ps : List (List UInt8 × Int)) (k i : Nat) : Value := if i < k then .int .i64 (ps.getD i ([], 0)).2 else .int .i64 0

set_option maxRecDepth 100000 in
set_option maxHeartbeats 2000000 in
theorem out_any (v : Value) (ps : List (List UInt8 × Int)) (w : World) (h : MembersAt w v ps) (hs : ps.length ≤ 65536) :
    Calls Try.prog 8 #[.iface 36 v] w fun e w' => (∃ n x, e = .returned (.tuple #[n, x, .bool true]) ∧ RowOf w' (fun u (p : List UInt8 × Int) => u = encStr p.1) n ps ∧ RowOf w' (fun u (p : List UInt8 × Int) => u = .int .i64 p.2) x ps) ∧ Keeps w w' := by
  obtain ⟨g, cap, rfl, hc⟩ := h
  have hg : ∀ i (h : i < ps.length), g < w.heap.size := fun i hi => cell_lt (hc i hi).1
  have e36 := yes36
  have e2 := yes2
  have hmk9 := run_make_row' (P := Try.prog) 22 9 (.string ByteArray.empty) 16 Try.underlying22 info9 rfl .i64 .i64 ps.length (by omega) (by omega)
  have hmk2 := run_make_row' (P := Try.prog) 23 2 (.int .i64 0) 8 Try.underlying23 info2 rfl .i64 .i64 ps.length (by omega) (by omega)
  go_enter Try.func8, Try.ntmps8
  go_wp2
  clear hmk9 hmk2 e36
  go_loopg [9] ps.length (fun q i wr => ∃ k : Nat, k + q = ps.length ∧ i = .int .i64 k ∧ wr.rowIs w.heap.size 9 ps.length (nameAt ps k) ∧ wr.rowIs (w.heap.size + 1) 2 ps.length (valueAt ps k) ∧ Keeps w wr)
  case atStart =>
    refine ⟨0, Nat.zero_add _, rfl, ?_, ?_, ((Keeps.refl w).alloc _).alloc _⟩
    · exact ((World.rowIs_made w (.string ByteArray.empty) ps.length 9).alloc _).congr fun i _ => by simp [nameAt]
    · have := World.rowIs_made (w.alloc (.cells (madeCells #[.string ByteArray.empty] ps.length) 9)) (.int .i64 0) ps.length 2
      rw [show (w.alloc (.cells (madeCells #[.string ByteArray.empty] ps.length) 9)).heap.size = w.heap.size + 1 from Array.size_push ..] at this
      exact this.congr fun i _ => by simp [valueAt]
  case round =>
    obtain ⟨k, hk, rfl, hN, hV, hK⟩ := hrel
    by_cases hlt : k < ps.length
    · have c0 := hK.cell (hc k hlt).1
      have c1 := hK.cell (hc k hlt).2
      have hgl := hg k hlt
      have cN := hN.cell hlt
      have fN := hN.frozen k
      have cV := hV.cell hlt
      have fV := hV.frozen k
      clear hc hg
      go_wp2
      go_roundg (ps.length - (k + 1))
      case rel =>
        refine ⟨k + 1, by omega, by go_num, ?_, ?_, ?_⟩
        · refine ((hN.set k _).setOther (a := ⟨w.heap.size + 1, k, none⟩) (by simp) _).congr fun i hi => ?_
          simp only [nameAt]
          by_cases e : i = k
          · subst e; rw [if_pos rfl, if_pos (by omega), getD_at hi]
          · rw [if_neg e]
            by_cases e' : i < k
            · rw [if_pos e', if_pos (by omega)]
            · rw [if_neg e', if_neg (by omega)]
        · refine ((hV.setOther (a := ⟨w.heap.size, k, none⟩) (by simp) _).set k _).congr fun i hi => ?_
          simp only [valueAt]
          by_cases e : i = k
          · subst e; rw [if_pos rfl, if_pos (by omega), getD_at hi]
          · rw [if_neg e]
            by_cases e' : i < k
            · rw [if_pos e', if_pos (by omega)]
            · rw [if_neg e', if_neg (by omega)]
        · exact (hK.setCell (p := ⟨w.heap.size, k, none⟩) (Nat.le_refl _) _).setCell (p := ⟨w.heap.size + 1, k, none⟩) (Nat.le_succ _) _
      case measure => omega
    · clear hc hg
      go_wp2
      obtain rfl : k = ps.length := by omega
      go_ret3
      refine ⟨⟨_, _, rfl, rowIs_row hN hs fun i hi => ?_, rowIs_row hV hs fun i hi => ?_⟩, hK⟩
      · simp only [nameAt]; rw [if_pos hi, getD_at hi]
      · simp only [valueAt]; rw [if_pos hi, getD_at hi]
end Go.Proofs.Qxb6612559a
