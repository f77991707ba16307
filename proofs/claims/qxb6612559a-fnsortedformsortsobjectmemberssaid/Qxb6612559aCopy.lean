import Derived.Test.Qxb6612559aLaw
namespace Go.Proofs.Qxb6612559a
open Go.RowKit

/-- The row that a make and a copy lay: as it was read. -/
theorem copy_row {α : Type} {w : World} {R : Value → α → Prop} {ad : Addr} {cap t e : Nat} {z : Value} {xs : List α} (h : RowOf w R (.slice (some ad) xs.length cap) xs) (ht : Try.prog.underlying t = some (.slice e)) (hsz : (Try.prog.info? e).map (·.size) = some 1) (h1 : ∀ u x, R u x → u.oneCell' = true) (ty : TypeId) :
    ∃ w2, (Builtin.copy_ #[t, t] ty #[.slice (some ⟨w.heap.size, 0, none⟩) xs.length xs.length, .slice (some ad) xs.length cap]).run Try.prog (w.alloc (.cells (madeCells #[z] xs.length) e)) = .ok (.int .i64 xs.length) w2 ∧ RowOf w2 R (.slice (some ⟨w.heap.size, 0, none⟩) xs.length xs.length) xs ∧ Keeps w w2 := by
  obtain ⟨hm, a, cap', hv, _, hx⟩ := h
  cases hv
  have hK : Keeps w (w.alloc (.cells (madeCells #[z] xs.length) e)) := (Keeps.refl w).alloc _
  obtain ⟨c, hb, hcs, _⟩ := World.rowIs_made w z xs.length e
  obtain ⟨us, hul, hus, huR⟩ : ∃ us : List Value, us.length = xs.length ∧ (∀ j u, us[j]? = some u → w.cell? (ad.add j) = some u) ∧ ∀ i (hi : i < us.length) (hi' : i < xs.length), R us[i] xs[i] := by
    rcases hx with rfl | ⟨b, off, ha, hc⟩
    · exact ⟨[], rfl, fun j u hu => by simp at hu, fun i hi => by simp at hi⟩
    · cases ha
      refine ⟨(List.range xs.length).map fun i => (w.cell? ⟨b, off + i, none⟩).getD z, by simp, fun j u hu => ?_, fun i hi hi' => ?_⟩
      · have hj : j < xs.length := by
          have := (List.getElem?_eq_some_iff.1 hu).1
          simpa using this
        obtain ⟨u', h1, _⟩ := hc j hj
        rw [List.getElem?_map, List.getElem?_range hj] at hu
        simp only [Option.map_some, Option.some.injEq, h1, Option.getD_some] at hu
        rw [show (⟨b, off, none⟩ : Addr).add j = ⟨b, off + j, none⟩ by unfold Addr.add; split <;> simp_all, h1, hu]
      · obtain ⟨u', h1, h2⟩ := hc i hi'
        simp [h1]
        exact h2
  have hrun := run_copy_row (P := Try.prog) (w.alloc (.cells (madeCells #[z] xs.length) e)) t t ty e w.heap.size 0 xs.length xs.length ad xs.length cap c e us ht hsz hb (by rw [hul]; simp) (fun j u hu => hK.cell (hus j u hu)) (by omega)
    (fun u hu => by
      obtain ⟨i, hi, rfl⟩ := List.getElem_of_mem hu
      exact h1 _ _ (huR i hi (by omega)))
  have hcut : (c.toList.take 0 ++ us ++ c.toList.drop (0 + us.length)) = us := by
    rw [List.take_zero, List.nil_append, List.drop_of_length_le (by simp; omega), List.append_nil]
  rw [hcut, hul] at hrun
  refine ⟨_, hrun, ⟨hm, _, _, rfl, (fun h => by cases h), Or.inr ⟨w.heap.size, 0, rfl, fun i hi => ⟨us[i], ?_, huR i (by omega) hi⟩⟩⟩, below_setRow hK (Nat.le_refl _) _⟩
  have := setRow_heap _ w.heap.size c us.toArray e (0, 0) hb
  rw [Nat.zero_add]
  unfold World.cell?
  rw [this]
  simp [hul, hi]
end Go.Proofs.Qxb6612559a
