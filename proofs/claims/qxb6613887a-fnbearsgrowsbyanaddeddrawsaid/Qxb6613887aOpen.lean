import Derived.Test.Qxb6613887aKeys
import Derived.Deep.SlicePairs
namespace Go.Proofs.Qxb6613887a
open Go.ChangeShapes Go.WideShapes
open Go.Deep (choose_lt)

theorem c21 : Try.prog.cellsOf 21 = 1 := by kernel_rfl
theorem c38 : Try.prog.cellsOf 38 = 1 := by kernel_rfl
theorem c23 : Try.prog.cellsOf 23 = 1 := by kernel_rfl
theorem c54 : Try.prog.cellsOf 54 = 1 := by kernel_rfl
theorem c27 : Try.prog.cellsOf 27 = 2 := by kernel_rfl
theorem c56 : Try.prog.cellsOf 56 = 2 := by kernel_rfl
theorem c9 : Try.prog.cellsOf 9 = 1 := by kernel_rfl

theorem addr_of {w : World} {a : Addr} {u : Value} (h : w.cell? a = some u) : a = ⟨a.block, a.off, none⟩ := by
  have := World.cell?_spot h
  obtain ⟨b, o, s⟩ := a
  simp at this
  rw [this]

theorem rowOf_of {α : Type} [Inhabited α] {w : World} {R : Value → α → Prop} {a : Addr} {len cap : Nat} (hl : len ≤ cap) (hm : cap ≤ maxLen)
    (h : ∀ i, i < len → ∃ x : α, ∃ u, w.cell? (a.add i) = some u ∧ R u x) : ∃ xs, RowOf w R (.slice (some a) len cap) xs := by
  obtain ⟨f, hf⟩ := choose_lt h
  refine ⟨(List.range len).map f, by simp; omega, some a, cap, by simp, (fun e => by cases e), ?_⟩
  by_cases h0 : len = 0
  · left; simp [h0]
  · right
    obtain ⟨u, hu, _⟩ := hf 0 (by omega)
    have ha : a = ⟨a.block, a.off, none⟩ := addr_of (by simpa [Addr.add] using hu)
    refine ⟨a.block, a.off, by rw [← ha], fun i hi => ?_⟩
    have hi' : i < len := by simpa using hi
    obtain ⟨u, hu, hR⟩ := hf i hi'
    rw [ha, add_plain] at hu
    exact ⟨u, hu, by simpa using hR⟩

theorem pairOf_of {α : Type} [Inhabited α] {w : World} {R0 R1 : Value → α → Prop} {a : Addr} {len cap : Nat} (hl : len ≤ cap) (hm : cap ≤ maxLen)
    (h : ∀ i, i < len → ∃ x : α, ∃ u0 u1, w.cell? (a.add (i * 2)) = some u0 ∧ w.cell? (a.add (i * 2 + 1)) = some u1 ∧ R0 u0 x ∧ R1 u1 x) : ∃ xs, PairOf w R0 R1 (.slice (some a) len cap) xs := by
  obtain ⟨f, hf⟩ := choose_lt h
  refine ⟨(List.range len).map f, by simp; omega, some a, cap, by simp, (fun e => by cases e), ?_⟩
  by_cases h0 : len = 0
  · left; simp [h0]
  · right
    obtain ⟨u, _, hu, _⟩ := hf 0 (by omega)
    have ha : a = ⟨a.block, a.off, none⟩ := addr_of (by simpa [Addr.add] using hu)
    refine ⟨a.block, a.off, by rw [← ha], fun i hi => ?_⟩
    have hi' : i < len := by simpa using hi
    obtain ⟨u0, u1, hu0, hu1, hR0, hR1⟩ := hf i hi'
    rw [ha, add_plain] at hu0
    rw [ha, add_plain] at hu1
    exact ⟨u0, u1, hu0, hu1, by simpa using hR0, by simpa using hR1⟩

theorem nilRow {α : Type} {w : World} {R : Value → α → Prop} : RowOf w R (.slice none 0 0) [] := ⟨Nat.zero_le _, none, 0, rfl, fun _ => rfl, Or.inl rfl⟩
theorem nilPair {α : Type} {w : World} {R0 R1 : Value → α → Prop} : PairOf w R0 R1 (.slice none 0 0) [] := ⟨Nat.zero_le _, none, 0, rfl, fun _ => rfl, Or.inl rfl⟩

section
variable {H : Type} {enc : TypeId × Value → H} {w : World} {base : Nat} {held : Bool} {fuel : Nat} {v : Value} {x : DataW H × List MemPlace}

theorem wf_i32 {n : Int} (h : (Lit.int .i32 n).wf = true) : -2147483648 ≤ n ∧ n ≤ 2147483647 := by
  simp only [Lit.wf, IntKind.min, IntKind.max, IntKind.signed, IntKind.bits] at h
  simp at h
  omega

theorem open_i32 (h : DataW.trod enc Try.prog w base (fun _ => true) held fuel 21 [v] = some x) : ∃ z, IsI32 v z := by
  obtain ⟨n, hc, _, hw⟩ := DataW.trod_int Try.underlying21 h
  simp at hc
  exact ⟨n, hc, wf_i32 hw⟩
theorem open_str (h : DataW.trod enc Try.prog w base (fun _ => true) held fuel 9 [v] = some x) : ∃ s, IsStr v s := by
  obtain ⟨s, hc, _, hw⟩ := DataW.trod_string Try.underlying9 h
  simp at hc
  exact ⟨s, hc, hw⟩

theorem open_rowI (h : DataW.trod enc Try.prog w base (fun _ => true) held fuel 38 [v] = some x) : ∃ zs, RowI w v zs := by
  rcases Deep.open_slice1 Try.underlying38 c21 h with ⟨hc, _⟩ | ⟨a, len, cap, m, n, V, D, Pl, hc, _, hl, hm, hmm, _, hx⟩
  · simp at hc; subst hc; exact ⟨[], nilRow⟩
  · simp at hc; subst hc
    exact rowOf_of hl hm fun i hi => by
      obtain ⟨h1, h2⟩ := hx i (by rw [hmm]; simp; omega)
      obtain ⟨z, hz⟩ := open_i32 h2
      exact ⟨z, _, h1, hz⟩
theorem open_rowsI (h : DataW.trod enc Try.prog w base (fun _ => true) held fuel 23 [v] = some x) : ∃ zs, RowsI w v zs := by
  rcases Deep.open_slice1 Try.underlying23 c38 h with ⟨hc, _⟩ | ⟨a, len, cap, m, n, V, D, Pl, hc, _, hl, hm, hmm, _, hx⟩
  · simp at hc; subst hc; exact ⟨[], nilRow⟩
  · simp at hc; subst hc
    exact rowOf_of hl hm fun i hi => by
      obtain ⟨h1, h2⟩ := hx i (by rw [hmm]; simp; omega)
      obtain ⟨z, hz⟩ := open_rowI h2
      exact ⟨z, _, h1, hz⟩
theorem open_partsI (h : DataW.trod enc Try.prog w base (fun _ => true) held fuel 25 [v] = some x) : ∃ zs, PartsI w v zs := by
  rcases Deep.open_slice1 Try.underlying25 c23 h with ⟨hc, _⟩ | ⟨a, len, cap, m, n, V, D, Pl, hc, _, hl, hm, hmm, _, hx⟩
  · simp at hc; subst hc; exact ⟨[], nilRow⟩
  · simp at hc; subst hc
    exact rowOf_of hl hm fun i hi => by
      obtain ⟨h1, h2⟩ := hx i (by rw [hmm]; simp; omega)
      obtain ⟨z, hz⟩ := open_rowsI h2
      exact ⟨z, _, h1, hz⟩
theorem open_rolesI (h : DataW.trod enc Try.prog w base (fun _ => true) held fuel 22 [v] = some x) : ∃ rs, RolesI w v rs := by
  rcases Deep.open_slice_pairs Try.underlying22 Try.underlying27 c27 rfl rfl c9 c9 h with ⟨hc, _⟩ | ⟨a, len, cap, m, n, V0, V1, D0, D1, P0, P1, hc, _, hl, hm, hmm, _, hx⟩
  · simp at hc; subst hc; exact ⟨[], nilPair⟩
  · simp at hc; subst hc
    exact pairOf_of hl hm fun i hi => by
      obtain ⟨h1, h2, h3, h4⟩ := hx i (by rw [hmm]; simp; omega)
      obtain ⟨s0, hs0⟩ := open_str h3
      obtain ⟨s1, hs1⟩ := open_str h4
      exact ⟨(s0, s1), _, _, h1, h2, hs0, hs1⟩
theorem open_linkRow (h : DataW.trod enc Try.prog w base (fun _ => true) held fuel 54 [v] = some x) : ∃ ls, LinkRow w v ls := by
  rcases Deep.open_slice_pairs Try.underlying54 Try.underlying56 c56 rfl rfl c21 c9 h with ⟨hc, _⟩ | ⟨a, len, cap, m, n, V0, V1, D0, D1, P0, P1, hc, _, hl, hm, hmm, _, hx⟩
  · simp at hc; subst hc; exact ⟨[], nilPair⟩
  · simp at hc; subst hc
    exact pairOf_of hl hm fun i hi => by
      obtain ⟨h1, h2, h3, h4⟩ := hx i (by rw [hmm]; simp; omega)
      obtain ⟨s0, hs0⟩ := open_i32 h3
      obtain ⟨s1, hs1⟩ := open_str h4
      exact ⟨(s0, s1), _, _, h1, h2, hs0, hs1⟩
theorem open_linksI (h : DataW.trod enc Try.prog w base (fun _ => true) held fuel 24 [v] = some x) : ∃ ls, LinksI w v ls := by
  rcases Deep.open_slice1 Try.underlying24 c54 h with ⟨hc, _⟩ | ⟨a, len, cap, m, n, V, D, Pl, hc, _, hl, hm, hmm, _, hx⟩
  · simp at hc; subst hc; exact ⟨[], nilRow⟩
  · simp at hc; subst hc
    exact rowOf_of hl hm fun i hi => by
      obtain ⟨h1, h2⟩ := hx i (by rw [hmm]; simp; omega)
      obtain ⟨z, hz⟩ := open_linkRow h2
      exact ⟨z, _, h1, hz⟩
end
end Go.Proofs.Qxb6613887a
