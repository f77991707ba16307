import Derived.Test.Qxb6612559aMain
import Derived.Deep.SlicePairs
namespace Go.Proofs.Qxb6612559a
open Go.ChangeShapes Go.WideShapes
open Go.Deep (choose_lt)

theorem laidOut : laidOutB Try.prog = true := by kernel_rfl
theorem c9 : Try.prog.cellsOf 9 = 1 := by kernel_rfl
theorem c2 : Try.prog.cellsOf 2 = 1 := by kernel_rfl

theorem addr_of {w : World} {a : Addr} {u : Value} (h : w.cell? a = some u) : a = ⟨a.block, a.off, none⟩ := by
  have := World.cell?_spot h
  obtain ⟨b, o, s⟩ := a
  simp at this
  rw [this]

theorem add_at (b o j : Nat) : (⟨b, o, none⟩ : Addr).add j = ⟨b, o + j, none⟩ := by unfold Addr.add; split <;> simp_all

theorem rowOf_of {α : Type} [Inhabited α] {w : World} {R : Value → α → Prop} {a : Addr} {len cap : Nat} (hl : len ≤ cap) (hm : cap ≤ maxLen)
    (h : ∀ i, i < len → ∃ x : α, ∃ u, w.cell? (a.add i) = some u ∧ R u x) : ∃ xs, RowOf w R (.slice (some a) len cap) xs := by
  obtain ⟨f, hf⟩ := choose_lt h
  refine ⟨(List.range len).map f, by simp; omega, some a, cap, by simp, (fun e => by cases e), ?_⟩
  by_cases h0 : len = 0
  · left; simp [h0]
  · right
    obtain ⟨u, hu, _⟩ := hf 0 (by omega)
    have ha : a = ⟨a.block, a.off, none⟩ := addr_of (by simpa [Addr.add] using hu)
    refine ⟨a.block, a.off, by rw [← ha], fun i hi => ?_⟩
    have hi' : i < len := by simpa using hi
    obtain ⟨u, hu, hR⟩ := hf i hi'
    rw [ha, add_at] at hu
    exact ⟨u, hu, by simpa using hR⟩

theorem nilRow {α : Type} {w : World} {R : Value → α → Prop} : RowOf w R (.slice none 0 0) [] := ⟨Nat.zero_le _, none, 0, rfl, fun _ => rfl, Or.inl rfl⟩

section
variable {H : Type} {enc : TypeId × Value → H} {w : World} {base : Nat} {held : Bool} {fuel : Nat} {v : Value} {x : DataW H × List MemPlace}

theorem range_i64 {n : Int} (h : (Lit.int .i64 n).wf = true) : -9223372036854775808 ≤ n ∧ n ≤ 9223372036854775807 := by
  simp only [Lit.wf, IntKind.min, IntKind.max, IntKind.signed, IntKind.bits] at h
  simp at h
  omega

theorem open_i64 (h : DataW.trod enc Try.prog w base (fun _ => true) held fuel 2 [v] = some x) : ∃ z, IsI64 v z := by
  obtain ⟨n, hc, _, hw⟩ := DataW.trod_int Try.underlying2 h
  simp at hc
  exact ⟨n, hc, range_i64 hw⟩
theorem open_str (h : DataW.trod enc Try.prog w base (fun _ => true) held fuel 9 [v] = some x) : ∃ s, IsStr v s := by
  obtain ⟨s, hc, _, hw⟩ := DataW.trod_string Try.underlying9 h
  simp at hc
  exact ⟨s, hc, hw⟩

theorem open_strs (h : DataW.trod enc Try.prog w base (fun _ => true) held fuel 22 [v] = some x) : ∃ ks, RowOf w IsStr v ks := by
  rcases Deep.open_slice1 Try.underlying22 c9 h with ⟨hc, _⟩ | ⟨a, len, cap, m, n, V, D, Pl, hc, _, hl, hm, hmm, _, hx⟩
  · simp at hc; subst hc; exact ⟨[], nilRow⟩
  · simp at hc; subst hc
    exact rowOf_of hl hm fun i hi => by
      obtain ⟨h1, h2⟩ := hx i (by rw [hmm]; simp; omega)
      obtain ⟨z, hz⟩ := open_str h2
      exact ⟨z, _, h1, hz⟩
theorem open_ints (h : DataW.trod enc Try.prog w base (fun _ => true) held fuel 23 [v] = some x) : ∃ zs, RowOf w IsI64 v zs := by
  rcases Deep.open_slice1 Try.underlying23 c2 h with ⟨hc, _⟩ | ⟨a, len, cap, m, n, V, D, Pl, hc, _, hl, hm, hmm, _, hx⟩
  · simp at hc; subst hc; exact ⟨[], nilRow⟩
  · simp at hc; subst hc
    exact rowOf_of hl hm fun i hi => by
      obtain ⟨h1, h2⟩ := hx i (by rw [hmm]; simp; omega)
      obtain ⟨z, hz⟩ := open_i64 h2
      exact ⟨z, _, h1, hz⟩
end
end Go.Proofs.Qxb6612559a
