import Derived.Test.Qxb6613887aBears
namespace Go.Proofs.Qxb6613887a
open Go.RowKit

def roleIdxI (rs : List Role) (r : Role) : Int := match roleIdx rs r with | some i => (i : Int) | none => -1
theorem roleIdxI_some {rs : List Role} {r : Role} {i : Nat} (h : roleIdx rs r = some i) : roleIdxI rs r = i := by rw [roleIdxI, h]
theorem roleIdxI_none {rs : List Role} {r : Role} (h : roleIdx rs r = none) : roleIdxI rs r = -1 := by rw [roleIdxI, h]
theorem stood27 : Try.prog.stoodInHeld 27 = false := by kernel_rfl
theorem guard27 : Try.prog.eqGuardType Try.prog.depth 27 = false := by kernel_rfl
theorem fields27 : Try.prog.underlying 27 = some (.struct (Try.prog.fieldsOf 27)) := by kernel_rfl
def roleEq (a b c d : ByteArray) : Bool := decide ((a, b) = (c, d))
theorem eql27 (a b c d : ByteArray) (w : World) : (binOp .eql 27 (.agg #[.string a, .string b]) (.agg #[.string c, .string d])).run Try.prog w = .ok (.bool (roleEq a b c d)) w := by
  unfold roleEq
  rw [run_eql_struct, run_equalIn_agg _ _ _ _ _ fields27 stood27]
  simp [Program.fieldsOf, Try.underlying27, Try.underlying9, go_sem]
  have e : ∀ x y : ByteArray, x.toList = y.toList ↔ x = y := fun x y => ⟨fun h => by
    rw [ByteArray.toList_eq, ByteArray.toList_eq] at h
    obtain ⟨⟨x⟩⟩ := x
    obtain ⟨⟨y⟩⟩ := y
    simp at h
    rw [h], fun h => by rw [h]⟩
  by_cases h1 : a = c <;> by_cases h2 : b = d <;> simp [h1, h2, e]

set_option maxHeartbeats 400000 in
theorem findRole_any (v : Value) (rs : List Role) (q : Role) (w : World) (h : RolesI w v rs) (hn : rs.length ≤ 4096) :
    Calls Try.prog 17 #[v, .agg #[.string q.1, .string q.2]] w fun e w' => e = .returned (.int .i64 (roleIdxI rs q)) ∧ Keeps w w' := by
  obtain ⟨a, cap, rfl, _⟩ := h.shape
  obtain ⟨q1, q2⟩ := q
  simp only
  have hg27 := guard27
  have he27 := eql27
  go_enter Try.func17, Try.ntmps17
  go_wp2
  go_loopw [5] (fun i wr => ∃ k : Nat, k ≤ rs.length ∧ i = .int .i64 k ∧ Keeps (w.alloc (.cells #[.string q1, .string q2] 27)) wr ∧ ∀ j (hj : j < k) (hj' : j < rs.length), rs[j] ≠ (q1, q2)) (fun i _ => rs.length - (intOf i).toNat)
  case atStart => exact ⟨0, Nat.zero_le _, rfl, Keeps.refl _, fun j hj => by omega⟩
  case round =>
    obtain ⟨k, hk, rfl, hK, hno⟩ := hrel
    have hbox0 : wr.cell? ⟨w.heap.size, 0, none⟩ = some (.string q1) := hK.cell (by simp [go_sem])
    have hbox1 : wr.cell? ⟨w.heap.size, 1, none⟩ = some (.string q2) := hK.cell (by simp [go_sem])
    by_cases hlt : k < rs.length
    · obtain ⟨b, off, u0, u1, rfl, c0, c1, ⟨rfl, _⟩, ⟨rfl, _⟩⟩ := ((h.keep ((Keeps.refl w).alloc _)).keep hK).at hlt
      by_cases hq : rs[k] = (q1, q2)
      · have hd : roleEq rs[k].1 rs[k].2 q1 q2 = true := by simp [roleEq, hq]
        have HF : Hid (roleIdx rs (q1, q2) = some k) := by
          unfold roleIdx
          rw [Hid, List.findIdx?_eq_some_iff_getElem]
          exact ⟨hlt, by simp [hq], fun j hj => by simp; exact hno j hj (by omega)⟩
        clear hno hq
        go_wp2
        go_quiet (fail)
        go_wp2
        go_ret
        exact ⟨by rw [roleIdxI_some HF.out]; rfl, (((Keeps.refl w).alloc _).trans hK).drewN _⟩
      · have hd : roleEq rs[k].1 rs[k].2 q1 q2 = false := decide_eq_false hq
        have HN : Hid (∀ j (hj : j < k + 1) (hj' : j < rs.length), rs[j] ≠ (q1, q2)) := fun j hj hj' => by
          by_cases e : j = k
          · subst e; exact hq
          · exact hno j (by omega) hj'
        clear hno hq
        go_wp2
        go_quiet (fail)
        go_wp2
        go_roundw
        case rel => exact ⟨k + 1, by omega, by go_num, hK.drewN _, HN.out⟩
        case measure => simp [intOf]; omega
    · have HF : Hid (roleIdx rs (q1, q2) = none) := roleIdx_none (fun hm => by
        obtain ⟨i, hi, e⟩ := List.getElem_of_mem hm
        exact hno i (by omega) hi e)
      clear hno
      go_wp2
      go_ret
      exact ⟨by rw [roleIdxI_none HF.out]; rfl, ((Keeps.refl w).alloc _).trans hK⟩
end Go.Proofs.Qxb6613887a
