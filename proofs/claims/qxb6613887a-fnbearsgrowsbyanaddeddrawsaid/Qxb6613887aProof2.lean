import Derived.Test.Qxb6613887aRows
import Derived.Test.Qxb6613887aLaw2
import Derived.Test.Qxb6613887aOpen
import Derived.ProofKit
import Derived.OpenShut
import Derived.ChangeOld
import Derived.Lib.SmallJoins
namespace Go.Proofs.Qxb6613887a.FnBearsGrowsByAnAddedDraw
open Go.ChangeShapes Go.WideShapes Go.ChangeAt Go.RowKit
open Go.Joins

theorem own : ownKnob Try.prog.godebug = none := by kernel_rfl

set_option maxRecDepth 100000 in
theorem lifted (os : Os) (started : os.Started) (H : Type) (enc : TypeId × Value → H) :
    ReturnsInHanded {} Try.checked os 4 .any (Rows.fnBearsGrowsByAnAddedDrawSpec.pre6 enc Try.prog Try.f4 Rows.fnBearsGrowsByAnAddedDrawRow.domain false) (Rows.fnBearsGrowsByAnAddedDrawSpec.post enc Try.prog Try.f4 false true false false) := by
  refine returnsInHanded_of_change (C := Try.checked) own started (by kernel_rfl) Try.func4
    (ChangeSpec.witness6 (enc := enc) (C := Try.checked) false ⟨#[], #[.slice none 0 0, .slice none 0 0, .slice none 0 0, .slice none 0 0, .int .i32 0, .int .i32 0, .int .i32 0, .agg #[.string ByteArray.empty, .string ByteArray.empty]], []⟩ 8 (by kernel_rfl) (by kernel_rfl) (by kernel_rfl) (by kernel_rfl)) ?_
  intro W base args ds gs before hval0 hW hcnd _
  have hval : ∀ (j : Nat) t v, Try.f4.params[j]? = some t → args[j]? = some v → Value.okWide Try.prog W .any base t v := hval0
  have hW' := hW
  obtain ⟨p, q, hA0, hV, rfl, hfz, hnd⟩ := hW
  have hA : DataW.TrodAll enc Try.prog W 0 (fun _ => true) true Try.f4.params.toList args.toList ds p := hA0
  rw [Try.params4] at hA hval
  obtain ⟨v0, vs0, d0, ds0, p0, q0, hargs, rfl, rfl, h0, r0⟩ := trodAll_cons hA
  obtain ⟨v1, vs1, d1, ds1, p1, q1, rfl, rfl, rfl, h1, r1⟩ := trodAll_cons r0
  obtain ⟨v2, vs2, d2, ds2, p2, q2, rfl, rfl, rfl, h2, r2⟩ := trodAll_cons r1
  obtain ⟨v3, vs3, d3, ds3, p3, q3, rfl, rfl, rfl, h3, r3⟩ := trodAll_cons r2
  obtain ⟨v4, vs4, d4, ds4, p4, q4, rfl, rfl, rfl, h4, r4⟩ := trodAll_cons r3
  obtain ⟨v5, vs5, d5, ds5, p5, q5, rfl, rfl, rfl, h5, r5⟩ := trodAll_cons r4
  obtain ⟨v6, vs6, d6, ds6, p6, q6, rfl, rfl, rfl, h6, r6⟩ := trodAll_cons r5
  obtain ⟨v7, vs7, d7, ds7, p7, q7, rfl, rfl, rfl, h7, r7⟩ := trodAll_cons r6
  obtain ⟨rfl, rfl, rfl⟩ := trodAll_nil r7
  obtain rfl : args = #[v0, v1, v2, v3, v4, v5, v6, v7] := by cases args; simp_all
  obtain ⟨rfl, rfl⟩ := trodVars_none hV
  have k0 := h0
  have k1 := h1
  have k2 := h2
  have k3 := h3
  have k4 := h4
  have k5 := h5
  have k6 := h6
  have k7 := h7
  have lt0 : ∀ x ∈ p0, x.block < W.heap.size := by obtain ⟨m, hm⟩ := k0; exact DataW.trod_lt m _ _ _ hm
  have lt1 : ∀ x ∈ p1, x.block < W.heap.size := by obtain ⟨m, hm⟩ := k1; exact DataW.trod_lt m _ _ _ hm
  have lt2 : ∀ x ∈ p2, x.block < W.heap.size := by obtain ⟨m, hm⟩ := k2; exact DataW.trod_lt m _ _ _ hm
  have lt3 : ∀ x ∈ p3, x.block < W.heap.size := by obtain ⟨m, hm⟩ := k3; exact DataW.trod_lt m _ _ _ hm
  have lt4 : ∀ x ∈ p4, x.block < W.heap.size := by obtain ⟨m, hm⟩ := k4; exact DataW.trod_lt m _ _ _ hm
  have lt5 : ∀ x ∈ p5, x.block < W.heap.size := by obtain ⟨m, hm⟩ := k5; exact DataW.trod_lt m _ _ _ hm
  have lt6 : ∀ x ∈ p6, x.block < W.heap.size := by obtain ⟨m, hm⟩ := k6; exact DataW.trod_lt m _ _ _ hm
  have lt7 : ∀ x ∈ p7, x.block < W.heap.size := by obtain ⟨m, hm⟩ := k7; exact DataW.trod_lt m _ _ _ hm
  obtain ⟨rs, g0⟩ : ∃ rs, RolesI W v0 rs := by
    obtain ⟨a, l, c, rfl⟩ := okWide_slice Try.underlying22 (hval 0 22 v0 rfl rfl)
    obtain ⟨fuel, hf⟩ := h0
    exact open_rolesI hf
  obtain ⟨dss, g1⟩ : ∃ zs, RowsI W v1 zs := by
    obtain ⟨a, l, c, rfl⟩ := okWide_slice Try.underlying23 (hval 1 23 v1 rfl rfl)
    obtain ⟨fuel, hf⟩ := h1
    exact open_rowsI hf
  obtain ⟨ls, g2⟩ : ∃ zs, LinksI W v2 zs := by
    obtain ⟨a, l, c, rfl⟩ := okWide_slice Try.underlying24 (hval 2 24 v2 rfl rfl)
    obtain ⟨fuel, hf⟩ := h2
    exact open_linksI hf
  obtain ⟨ps, g3⟩ : ∃ zs, PartsI W v3 zs := by
    obtain ⟨a, l, c, rfl⟩ := okWide_slice Try.underlying25 (hval 3 25 v3 rfl rfl)
    obtain ⟨fuel, hf⟩ := h3
    exact open_partsI hf
  obtain ⟨x, rfl, hx⟩ : ∃ x, v4 = .int .i32 x ∧ -2147483648 ≤ x ∧ x ≤ 2147483647 := by
    obtain ⟨x, rfl, _, _, wx⟩ := open_int Try.underlying21 (hval 4 21 v4 rfl rfl) h4
    exact ⟨x, rfl, wf_i32 wx⟩
  obtain ⟨y, rfl, hy⟩ : ∃ x, v5 = .int .i32 x ∧ -2147483648 ≤ x ∧ x ≤ 2147483647 := by
    obtain ⟨x, rfl, _, _, wx⟩ := open_int Try.underlying21 (hval 5 21 v5 rfl rfl) h5
    exact ⟨x, rfl, wf_i32 wx⟩
  obtain ⟨z, rfl, hz⟩ : ∃ x, v6 = .int .i32 x ∧ -2147483648 ≤ x ∧ x ≤ 2147483647 := by
    obtain ⟨x, rfl, _, _, wx⟩ := open_int Try.underlying21 (hval 6 21 v6 rfl rfl) h6
    exact ⟨x, rfl, wf_i32 wx⟩
  obtain ⟨s1, s2, rfl, hs1, hs2⟩ : ∃ s1 s2, v7 = .agg #[.string s1, .string s2] ∧ s1.size ≤ maxLen ∧ s2.size ≤ maxLen := by
    obtain ⟨c0, c1, y0, y1, m, rfl, _, _, hy0, hy1⟩ := open_agg2 Try.underlying27 (by kernel_rfl) c27 (hval 7 27 v7 rfl rfl) h7
    obtain ⟨s1, rfl, hs1⟩ := open_str hy0
    obtain ⟨s2, rfl, hs2⟩ := open_str hy1
    exact ⟨s1, s2, rfl, hs1, hs2⟩
  clear hA0 hval0
  refine (law2_any v0 v1 v2 v3 rs dss ls ps x y z s1 s2 W g0 g1 g2 g3 hx hy hz hs1 hs2).mono fun e W' ⟨he, bel⟩ => ?_
  subst he
  have bel : Below W.heap.size W W' := bel
  exact ⟨_, rfl, _, _, _, [], _, [], hW', trodAll_mk1 (shut_bool Try.underlying4 _),
    (trodAll_cons_mk (Below.trod laidOut (by kernel_rfl) (of_decide_eq_true (by kernel_rfl)) k0 bel lt0) 
      (trodAll_cons_mk (Below.trod laidOut (by kernel_rfl) (of_decide_eq_true (by kernel_rfl)) k1 bel lt1) 
      (trodAll_cons_mk (Below.trod laidOut (by kernel_rfl) (of_decide_eq_true (by kernel_rfl)) k2 bel lt2) 
      (trodAll_cons_mk (Below.trod laidOut (by kernel_rfl) (of_decide_eq_true (by kernel_rfl)) k3 bel lt3) 
      (trodAll_cons_mk (Below.trod laidOut (by kernel_rfl) (of_decide_eq_true (by kernel_rfl)) k4 bel lt4) 
      (trodAll_cons_mk (Below.trod laidOut (by kernel_rfl) (of_decide_eq_true (by kernel_rfl)) k5 bel lt5) 
      (trodAll_cons_mk (Below.trod laidOut (by kernel_rfl) (of_decide_eq_true (by kernel_rfl)) k6 bel lt6) 
      (trodAll_cons_mk (Below.trod laidOut (by kernel_rfl) (of_decide_eq_true (by kernel_rfl)) k7 bel lt7) trodAll_mk0)))))))), rfl, bel.frame _, fun h => by cases h⟩

theorem over : Rows.fnBearsGrowsByAnAddedDrawRow.holds Try.pinned (OpenSpec.ofChange Rows.fnBearsGrowsByAnAddedDrawSpec) :=
  OpenClaim.holds_of_wide 4 Try.f4 rfl rfl rfl rfl rfl rfl rfl ⟨rfl, rfl, rfl, rfl, rfl⟩ rfl rfl rfl rfl rfl (by kernel_rfl) Try.func4 (by kernel_rfl)
    (of_decide_eq_true (by kernel_rfl)) (by unfold Func.isWrapper; first | (rw [if_pos (by decide +kernel)]; kernel_rfl) | (rw [if_neg (by decide +kernel)]; exact ⟨rfl, rfl⟩))
    (fun os started H enc _ => lifted os started H enc)

theorem proved : Rows.FnBearsGrowsByAnAddedDrawSaid := over
#print axioms proved
end Go.Proofs.Qxb6613887a.FnBearsGrowsByAnAddedDraw
