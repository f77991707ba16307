import Derived.Test.Qxb6613887aLaw1
namespace Go.Proofs.Qxb6613887a
open Go.RowKit
open Plain (inN Bfs)

theorem info38 : (Try.prog.info? 38).map (fun i => (i.zero, i.size, i.bytes)) = some (some (.slice none 0 0), 1, 24) := by kernel_rfl

/-- The first k are laid, the rest is as it was made. -/
def laidTo (V : Nat → Value) (z : Value) (k j : Nat) : Value := if j < k then V j else z
theorem laidTo_zero (V : Nat → Value) (z : Value) (j : Nat) : laidTo V z 0 j = z := by simp [laidTo]
theorem laidTo_succ (V : Nat → Value) (z : Value) (k j : Nat) : laidTo V z (k + 1) j = if j = k then V k else laidTo V z k j := by
  unfold laidTo
  by_cases e : j = k
  · subst e; simp
  · rw [if_neg e]
    by_cases h : j < k
    · rw [if_pos h, if_pos (by omega)]
    · rw [if_neg h, if_neg (by omega)]
theorem rowIs_step {w : World} {b n k : Nat} {t : TypeId} {V : Nat → Value} {z : Value} (h : w.rowIs b t n (laidTo V z k)) : (w.setCell ⟨b, k, none⟩ (V k)).rowIs b t n (laidTo V z (k + 1)) :=
  (h.set k (V k)).congr fun j _ => (laidTo_succ V z k j).symm

theorem withDraw_fin {w wr : World} {go rb u : Nat} {dss : List (List Int)} {v : Int} {V Z : Nat → Value} (hu : u < dss.length) (hn : dss.length ≤ 4096) (hb : dss[u].length + 1 ≤ 1048576) (hv : -2147483648 ≤ v ∧ v ≤ 2147483647)
    (hro : wr.rowIs go 38 dss.length (laidTo V (.slice none 0 0) dss.length)) (hR2 : wr.rowIs rb 21 (dss[u].length + 1) (laidTo Z (.int .i32 0) dss[u].length)) (hne : go ≠ rb)
    (hV : ∀ i (hi : i < dss.length), RowI w (V i) dss[i]) (hZ : ∀ j (hj : j < dss[u].length), Z j = .int .i32 dss[u][j]) (hK : Keeps w wr) (hgo : w.heap.size ≤ go) (hrb : w.heap.size ≤ rb) :
    RowsI ((wr.setCell ⟨rb, dss[u].length, none⟩ (.int .i32 v)).setCell ⟨go, u, none⟩ (.slice (some ⟨rb, 0, none⟩) (dss[u].length + 1) (dss[u].length + 1))) (.slice (some ⟨go, 0, none⟩) dss.length dss.length) (dss.set u (dss[u] ++ [v])) ∧
    Keeps w ((wr.setCell ⟨rb, dss[u].length, none⟩ (.int .i32 v)).setCell ⟨go, u, none⟩ (.slice (some ⟨rb, 0, none⟩) (dss[u].length + 1) (dss[u].length + 1))) := by
  have hKW := (hK.setCell (p := ⟨rb, dss[u].length, none⟩) hrb (.int .i32 v)).setCell (p := ⟨go, u, none⟩) hgo (.slice (some ⟨rb, 0, none⟩) (dss[u].length + 1) (dss[u].length + 1))
  refine ⟨?_, hKW⟩
  have r1 := (hro.setOther (a := ⟨rb, dss[u].length, none⟩) hne (.int .i32 v)).set u (.slice (some ⟨rb, 0, none⟩) (dss[u].length + 1) (dss[u].length + 1))
  have r2 := (hR2.set dss[u].length (.int .i32 v)).setOther (a := ⟨go, u, none⟩) (fun e => hne e.symm) (.slice (some ⟨rb, 0, none⟩) (dss[u].length + 1) (dss[u].length + 1))
  have hrow : ∀ z ∈ dss[u], -2147483648 ≤ z ∧ z ≤ 2147483647 := fun z hz => by
    obtain ⟨j, hj, rfl⟩ := List.getElem_of_mem hz
    obtain ⟨a, cap, hVs, _⟩ := (hV u hu).shape
    have h := hV u hu
    rw [hVs] at h
    obtain ⟨_, _, _, _, _, _, h2⟩ := h.at hj
    exact h2
  refine ⟨by simp; unfold maxLen; omega, some ⟨go, 0, none⟩, dss.length, by simp, (fun e => by cases e), Or.inr ⟨go, 0, rfl, fun i hi => ?_⟩⟩
  have hi' : i < dss.length := by simpa using hi
  have c := r1.cell hi'
  refine ⟨_, by simpa using c, ?_⟩
  by_cases e : i = u
  · subst e
    simp only [if_true, List.getElem_set_self]
    refine ⟨by simp; unfold maxLen; omega, some ⟨rb, 0, none⟩, dss[i].length + 1, by simp, (fun e => by cases e), Or.inr ⟨rb, 0, rfl, fun j hj => ?_⟩⟩
    have hj' : j < dss[i].length + 1 := by simpa using hj
    have c2 := r2.cell hj'
    refine ⟨_, by simpa using c2, ?_⟩
    by_cases e2 : j = dss[i].length
    · subst e2
      simp only [if_true, List.getElem_concat_length]
      exact ⟨rfl, hv⟩
    · have hj2 : j < dss[i].length := by omega
      simp only [if_neg e2]
      rw [laidTo, if_pos hj2, hZ j hj2, List.getElem_append_left hj2]
      exact ⟨rfl, hrow _ (List.getElem_mem hj2)⟩
  · rw [if_neg e, laidTo, if_pos hi', List.getElem_set_ne (fun h => e h.symm)]
    exact (hV i hi').keep hKW

set_option maxRecDepth 100000 in
set_option maxHeartbeats 2000000 in
theorem withDraw_any (v1 : Value) (dss : List (List Int)) (u v : Nat) (w : World) (h1 : RowsI w v1 dss) (hu : u < dss.length) (hn : dss.length ≤ 4096) (hv : v ≤ 2147483647) (hb : dss[u].length + 1 ≤ 1048576) :
    Calls Try.prog 19 #[v1, .int .i32 u, .int .i32 v] w fun e w' => ∃ v', e = .returned v' ∧ RowsI w' v' (dss.set u (dss[u] ++ [(v : Int)])) ∧ Keeps w w' := by
  obtain ⟨a1, cap1, rfl, _⟩ := h1.shape
  obtain ⟨b1, off1, _, rfl, _⟩ := h1.at hu
  have hV : ∀ i (hi : i < dss.length), ∃ a cap, w.cell? ⟨b1, off1 + i, none⟩ = some (.slice a dss[i].length cap) ∧ RowI w (.slice a dss[i].length cap) dss[i] := fun i hi => by
    obtain ⟨b, off, x, he, hc, hx⟩ := h1.at hi
    cases he
    obtain ⟨a, cap, rfl, _⟩ := hx.shape
    exact ⟨a, cap, hc, hx⟩
  have HV := hide hV
  obtain ⟨V, hVd⟩ : ∃ V : Nat → Value, V = fun i => (w.cell? ⟨b1, off1 + i, none⟩).getD (.slice none 0 0) := ⟨_, rfl⟩
  have HVV := hide (show ∀ i v, w.cell? ⟨b1, off1 + i, none⟩ = some v → V i = v from fun i v e => by rw [hVd]; simp only [e, Option.getD_some])
  clear hVd hV
  have hmk := run_make_row' (P := Try.prog) 23 38 (.slice none 0 0) 24 Try.underlying23 info38 rfl .i64 .i64 dss.length (by omega) (by omega)
  have hmk2 := run_make_row' (P := Try.prog) 38 21 (.int .i32 0) 4 Try.underlying38 info21 rfl .i64 .i64 (dss[u].length + 1) (by omega) (by omega)
  have ec : ((dss[u].length + 1 : Nat) : Int) = (dss[u].length : Int) + 1 := by omega
  rw [ec] at hmk2
  clear ec
  obtain ⟨au, capu, cu, hru⟩ := (unhide HV) u hu
  go_enter Try.func19, Try.ntmps19
  go_wp2
  have hR0 : (w.alloc (.cells (madeCells #[.slice none 0 0] dss.length) 38)).rowIs w.heap.size 38 dss.length (laidTo V (.slice none 0 0) 0) := (World.rowIs_made w _ _ _).congr fun j _ => (laidTo_zero V _ j).symm
  have hK0 : Keeps w (w.alloc (.cells (madeCells #[.slice none 0 0] dss.length) 38)) := (Keeps.refl w).alloc _
  go_loopg [8] dss.length (fun q i wr => ∃ k : Nat, k + q = dss.length ∧ i = .int .i64 k ∧ wr.rowIs w.heap.size 38 dss.length (laidTo V (.slice none 0 0) k) ∧ Keeps w wr)
  case atStart => exact ⟨0, Nat.zero_add _, rfl, hR0, hK0⟩
  case round =>
    clear hR0 hK0
    obtain ⟨k, hkq, rfl, hR, hK⟩ := hrel
    have hk : k ≤ dss.length := by omega
    have HJ := hide hkq
    clear hkq
    by_cases hlt : k < dss.length
    · obtain ⟨ak, capk, ck, hrk⟩ := (unhide HV) k hlt
      have hVk := (unhide HVV) k _ ck
      have ck' := hK.cell ck
      have hc := hR.cell hlt
      have hf := hR.frozen k
      have hst := rowIs_step hR
      rw [hVk] at hst
      have HST := hide hst
      clear hst hVk
      go_wp2
      go_roundg (dss.length - (k + 1))
      case rel => exact ⟨k + 1, by omega, by go_num, unhide HST, hK.setCell (p := ⟨w.heap.size, k, none⟩) (Nat.le_refl _) _⟩
      case measure => have := unhide HJ; omega
    · obtain rfl : k = dss.length := by omega
      have cu' := hK.cell cu
      have hgl := hR.lt
      obtain ⟨wo, rfl⟩ : ∃ wo : World, wo = wr := ⟨_, rfl⟩
      obtain ⟨Z, hZ⟩ : ∃ Z : Nat → Value, ∀ j (hj : j < dss[u].length), Z j = .int .i32 dss[u][j] := ⟨fun j => .int .i32 (dss[u].getD j 0), fun j hj => by simp [List.getD, hj]⟩
      have HZ := hide hZ
      clear hZ
      go_wp2
      have hR0 : (wo.alloc (.cells (madeCells #[.int .i32 0] (dss[u].length + 1)) 21)).rowIs wo.heap.size 21 (dss[u].length + 1) (laidTo Z (.int .i32 0) 0) := (World.rowIs_made wo _ _ _).congr fun j _ => (laidTo_zero Z _ j).symm
      have hK0 : Keeps wo (wo.alloc (.cells (madeCells #[.int .i32 0] (dss[u].length + 1)) 21)) := (Keeps.refl wo).alloc _
      clear hmk hmk2
      go_loopg [10] dss[u].length (fun q j w2 => ∃ m : Nat, m + q = dss[u].length ∧ j = .int .i64 m ∧ w2.rowIs wo.heap.size 21 (dss[u].length + 1) (laidTo Z (.int .i32 0) m) ∧ Keeps wo w2)
      case atStart => exact ⟨0, Nat.zero_add _, rfl, hR0, hK0⟩
      case round =>
        clear hR0 hK0
        obtain ⟨m, hmq, rfl, hR2, hK2⟩ := hrel
        have hm : m ≤ dss[u].length := by omega
        have HJ2 := hide hmq
        clear hmq
        have hKw := hK.trans hK2
        have cu2 := hKw.cell cu
        have hgl2 := hR2.lt
        by_cases hlt2 : m < dss[u].length
        · obtain ⟨b4, off4, y, rfl, c4, rfl, _⟩ := (RowI.keep hru hKw).at hlt2
          have hc := hR2.cell (i := m) (by omega)
          have hf := hR2.frozen m
          have hst := rowIs_step hR2
          rw [(unhide HZ) m hlt2] at hst
          have HST := hide hst
          clear hst
          go_wp2
          go_roundg (dss[u].length - (m + 1))
          case rel => exact ⟨m + 1, by omega, by go_num, unhide HST, hK2.setCell (p := ⟨wo.heap.size, m, none⟩) (Nat.le_refl _) _⟩
          case measure => have := unhide HJ2; omega
        · obtain rfl : m = dss[u].length := by omega
          have hc := hR2.cell (i := dss[u].length) (by omega)
          have hf := hR2.frozen dss[u].length
          have hro := hR.of_block (hK2.block _ hgl)
          have hc2 := hro.cell hu
          have hf2 := hro.frozen u
          have n1 : ¬ w.heap.size = wo.heap.size := by omega
          have n2 : ¬ wo.heap.size = w.heap.size := by omega
          go_wp2
          go_ret
          have hfin := withDraw_fin (v := (v : Int)) hu hn hb (by omega) hro hR2 n1 (fun i hi => by
            obtain ⟨a, cap, hc, hr⟩ := (unhide HV) i hi
            rw [(unhide HVV) i _ hc]
            exact hr) (unhide HZ) hKw (Nat.le_refl _) (by omega)
          exact ⟨_, rfl, hfin.1, hfin.2⟩
end Go.Proofs.Qxb6613887a
