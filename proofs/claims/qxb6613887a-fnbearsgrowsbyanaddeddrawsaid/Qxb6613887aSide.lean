import Derived.Test.Qxb6613887aDraw
import Derived.Test.Qxb6613887aBytes18
namespace Go.Proofs.Qxb6613887a
open Go.RowKit
open Plain (inN Bfs)

/-- A graph in memory, as 'cone' and 'bears' see it. -/
def GraphIs (w : World) (v : Value) (rs : List Role) (dss : List (List Int)) (ls : List (List Link)) (ps : List (List (List Int))) : Prop :=
  ∃ g bi ro v1 v2 v3, v = .pointer (some ⟨g, 0, none⟩) ∧ GraphAt w v (.map (some bi)) ro v1 v2 v3 ∧ IndexIs w bi rs ∧ RowsI w v1 dss ∧ LinksI w v2 ls ∧ PartsI w v3 ps
theorem GraphIs.keep {w w' : World} {v : Value} {rs : List Role} {dss : List (List Int)} {ls : List (List Link)} {ps : List (List (List Int))} (h : GraphIs w v rs dss ls ps) (hb : Keeps w w') : GraphIs w' v rs dss ls ps := by
  obtain ⟨g, bi, ro, v1, v2, v3, rfl, h1, h2, h3, h4, h5⟩ := h
  exact ⟨g, bi, ro, v1, v2, v3, rfl, h1.keep hb, h2.keep hb, h3.keep hb, h4.keep hb, h5.keep hb⟩

set_option maxHeartbeats 400000 in
theorem bearsSide_any (v : Value) (rs : List Role) (dss : List (List Int)) (ls : List (List Link)) (ps : List (List (List Int))) (r : Nat) (w : World) (hG : GraphIs w v rs dss ls ps)
    (l1 : dss.length = rs.length) (l2 : ls.length = rs.length) (l3 : ps.length = rs.length) (hr : r < rs.length) (hN : rs.length ≤ 4096)
    (k1 : ∀ i (hi : i < dss.length), ∀ j (hj : j < dss[i].length), inR rs.length dss[i][j]) (k2 : LinksOK rs.length ls) (k3 : PartsOK rs.length ps) (hby : BytesOK dss ls ps) :
    Calls Try.prog 20 #[v, .int .i32 r, .int .i64 rs.length] w fun e w' => ∃ sd cone, e = .returned (.pointer (some ⟨sd, 0, none⟩)) ∧ SideIs w' (.pointer (some ⟨sd, 0, none⟩)) rs cone ∧ Bfs (succs dss ls ps) rs.length r cone cone.length ∧ Keeps w w' := by
  obtain ⟨g, bi, ro, v1, v2, v3, rfl, h1, h2, h3, h4, h5⟩ := hG
  have H12 := hide (zzcone_any g v1 v2 v3 _ ro dss ls ps rs.length r w h1 h3 h4 h5 l1 l2 l3 hr hN k1 k2 k3 hby)
  clear l1 l2 l3 hr k1 k2 k3 hby h3 h4 h5
  go_enter Try.func20, Try.ntmps20
  go_wp2_with fail
  refine (unhide H12).mono ?_
  rintro e wa ⟨a, cap, cone, rfl, hrow, hb, hk⟩
  clear H12
  go_wp2_with fail
  refine (coneSet_any _ cone rs.length wa hrow hN hb.nodup (fun y hy => (hb.sound y hy).1)).mono ?_
  rintro e wb ⟨bc, rfl, hset, hkb⟩
  go_wp2_with fail
  refine (newSide_any ⟨g, 0, none⟩ bc wb).mono ?_
  rintro e wc ⟨v9, he9, hk9, hSA⟩
  obtain ⟨sd, rfl, sd0, sd2⟩ := hSA
  subst he9
  have hKc := hk.trans (hkb.trans hk9)
  have hSide : SideIs wc (.pointer (some ⟨sd, 0, none⟩)) rs cone := by
    obtain ⟨g', hgg, gix, _⟩ := h1.keep hKc
    cases hgg
    exact ⟨sd, g, bi, bc, rfl, sd0, sd2, gix, h2.keep hKc, hset.keep hk9, hN⟩
  have HS := hide hSide
  clear hSide h1 h2 hset sd0 sd2
  go_wp2
  go_ret
  exact ⟨sd, cone, rfl, unhide HS, hb, hKc⟩

/-! ### one draw more -/

theorem succs_set {dss : List (List Int)} {ls : List (List Link)} {ps : List (List (List Int))} {u : Nat} {v : Int} (hu : u < dss.length) (x : Nat) (z : Int) :
    z ∈ succs (dss.set u (dss[u] ++ [v])) ls ps x ↔ z ∈ succs dss ls ps x ∨ (x = u ∧ z = v) := by
  unfold succs
  by_cases e : x = u
  · subst e
    simp [List.getD, hu]
    constructor
    · rintro (h | h | h | h) <;> simp [h]
    · rintro ((h | h | h) | h) <;> simp [h]
  · have : (dss.set u (dss[u] ++ [v])).getD x [] = dss.getD x [] := by
      simp only [List.getD]
      rw [List.getElem?_set_ne (fun h => e h.symm)]
    rw [this]
    simp [e]

theorem reach_set {dss : List (List Int)} {ls : List (List Link)} {ps : List (List (List Int))} {N u v : Nat} {root : Int} (hu : u < dss.length) (hvN : v < N) (hr : inN N root) (hS : ∀ x, inN N x → ∀ z ∈ succs dss ls ps x.toNat, inN N z) (y : Int) :
    Plain.Reach (succs (dss.set u (dss[u] ++ [(v : Int)])) ls ps) root y ↔ Plain.Reach (succs dss ls ps) root y ∨ (Plain.Reach (succs dss ls ps) root u ∧ Plain.Reach (succs dss ls ps) v y) := by
  have mono : ∀ {a b : Int}, Plain.Reach (succs dss ls ps) a b → ∀ C : Int → Prop, C a → (∀ x, C x → ∀ z ∈ succs (dss.set u (dss[u] ++ [(v : Int)])) ls ps x.toNat, C z) → C b :=
    fun h C h0 h1 => h C h0 (fun x hx z hz => h1 x hx z ((succs_set hu _ _).2 (Or.inl hz)))
  constructor
  · intro h
    refine (h (fun y => inN N y ∧ (Plain.Reach (succs dss ls ps) root y ∨ (Plain.Reach (succs dss ls ps) root u ∧ Plain.Reach (succs dss ls ps) v y))) ⟨hr, Or.inl (Plain.Reach.root _ _)⟩ ?_).2
    rintro x ⟨hx, hR⟩ z hz
    rcases (succs_set hu _ _).1 hz with hz | ⟨hxu, rfl⟩
    · refine ⟨hS x hx z hz, ?_⟩
      rcases hR with hR | ⟨h1, h2⟩
      · exact Or.inl (hR.step hz)
      · exact Or.inr ⟨h1, h2.step hz⟩
    · have hxe : x = (u : Int) := by unfold inN at hx; omega
      subst hxe
      refine ⟨by unfold inN; omega, Or.inr ?_⟩
      rcases hR with hR | ⟨h1, _⟩
      · exact ⟨hR, Plain.Reach.root _ _⟩
      · exact ⟨h1, Plain.Reach.root _ _⟩
  · rintro (h | ⟨h1, h2⟩)
    · exact fun C => mono h C
    · intro C h0 hc
      have hCu : C u := mono h1 C h0 hc
      have hCv : C v := hc u hCu v ((succs_set hu _ _).2 (Or.inr ⟨by simp, rfl⟩))
      exact mono h2 C hCv hc

/-- What 'bears' says of the three sides. -/
theorem bears_grows {rs : List Role} {dss : List (List Int)} {ls : List (List Link)} {ps : List (List (List Int))} {u v r : Nat} {c1 c2 c3 : List Int} (hd : rs.Nodup) (hu : u < dss.length) (huN : u < rs.length) (hvN : v < rs.length) (hrN : r < rs.length)
    (hS : ∀ x, inN rs.length x → ∀ z ∈ succs dss ls ps x.toNat, inN rs.length z)
    (b1 : Bfs (succs dss ls ps) rs.length r c1 c1.length) (b2 : Bfs (succs (dss.set u (dss[u] ++ [(v : Int)])) ls ps) rs.length r c2 c2.length) (b3 : Bfs (succs dss ls ps) rs.length v c3 c3.length) (q : Role) :
    bearsB rs c2 q = (bearsB rs c1 q || (bearsB rs c1 rs[u] && bearsB rs c3 q)) := by
  by_cases hq : q ∈ rs
  · obtain ⟨i, hi, rfl⟩ := List.getElem_of_mem hq
    simp only [bearsB, roleIdx_some hd hi, roleIdx_some hd huN]
    have e1 := b1.final (Nat.le_refl _) (y := (i : Int))
    have e2 := b2.final (Nat.le_refl _) (y := (i : Int))
    have e3 := b3.final (Nat.le_refl _) (y := (i : Int))
    have e4 := b1.final (Nat.le_refl _) (y := (u : Int))
    have e5 := reach_set (dss := dss) (ls := ls) (ps := ps) (N := rs.length) (u := u) (v := v) (root := (r : Int)) hu hvN (by unfold inN; omega) hS (i : Int)
    rw [Bool.eq_iff_iff]
    simp only [List.contains_iff_mem, Bool.or_eq_true, Bool.and_eq_true]
    rw [e1, e2, e3, e4, e5]
  · simp only [bearsB, roleIdx_none hq, Bool.and_false, Bool.or_false]

theorem bears_root {rs : List Role} {S : Nat → List Int} {r : Nat} {c : List Int} (hd : rs.Nodup) (hrN : r < rs.length) (b : Bfs S rs.length r c c.length) : bearsB rs c rs[r] = true := by
  simp only [bearsB, roleIdx_some hd hrN]
  rw [List.contains_iff_mem]
  exact List.mem_of_getElem? b.head

theorem bytes_of18 {dss : List (List Int)} {ls : List (List Link)} {ps : List (List (List Int))} (h : BytesOK18 dss ls ps) : BytesOK dss ls ps := ⟨fun i hi => by have := h.1 i hi; omega, h.2.1, h.2.2⟩
theorem bytes_set {dss : List (List Int)} {ls : List (List Link)} {ps : List (List (List Int))} {u : Nat} {v : Int} (h : BytesOK18 dss ls ps) (hu : u < dss.length) : BytesOK (dss.set u (dss[u] ++ [v])) ls ps := by
  refine ⟨fun i hi => ?_, h.2.1, h.2.2⟩
  have hi' : i < dss.length := by simpa using hi
  by_cases e : u = i
  · subst e
    rw [List.getElem_set_self]
    have := h.1 u hi'
    simpa using this
  · rw [List.getElem_set_ne e]
    have := h.1 i hi'
    omega
theorem range_set {n : Nat} {dss : List (List Int)} {u : Nat} {v : Int} (h : ∀ i (hi : i < dss.length), ∀ j (hj : j < dss[i].length), inR n dss[i][j]) (hu : u < dss.length) (hv : inR n v) :
    ∀ i (hi : i < (dss.set u (dss[u] ++ [v])).length), ∀ j (hj : j < (dss.set u (dss[u] ++ [v]))[i].length), inR n (dss.set u (dss[u] ++ [v]))[i][j] := by
  intro i hi j hj
  have hm : (dss.set u (dss[u] ++ [v]))[i][j] ∈ (dss.set u (dss[u] ++ [v]))[i] := List.getElem_mem hj
  have hi' : i < dss.length := by simpa using hi
  generalize (dss.set u (dss[u] ++ [v]))[i][j] = z at hm
  rw [List.getElem_set] at hm
  split at hm
  · rcases List.mem_append.1 hm with hm | hm
    · obtain ⟨k, hk, rfl⟩ := List.getElem_of_mem hm
      exact h u hu k hk
    · simp at hm; subst hm; exact hv
  · obtain ⟨k, hk, rfl⟩ := List.getElem_of_mem hm
    exact h i hi' k hk
end Go.Proofs.Qxb6613887a
