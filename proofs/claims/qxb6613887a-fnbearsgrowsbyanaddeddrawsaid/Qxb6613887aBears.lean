import Derived.Test.Qxb6613887aKeys
namespace Go.Proofs.Qxb6613887a
open Go.RowKit

theorem Keeps.drewN {a w : World} (h : Keeps a w) (n : Nat) : Keeps a (w.drewN n) := ⟨h.os, h.tape, h.output, h.size, h.block⟩

set_option maxHeartbeats 400000 in
theorem bears_core (s g bi bc : Nat) (a b : ByteArray) (x : Int) (ok out : Bool) (w : World)
    (h1 : w.cell? ⟨s, 0, none⟩ = some (.pointer (some ⟨g, 0, none⟩))) (h2 : w.cell? ⟨s, 2, none⟩ = some (.map (some bc))) (h3 : w.cell? ⟨g, 0, none⟩ = some (.map (some bi)))
    (hl : ∀ n, (Instr.lookup 60 (.map (some bi)) (.agg #[.string a, .string b]) true).run Try.prog ((w.alloc (.cells #[.string a, .string b] 48)).drewN n) = .ok (.tuple #[.int .i32 x, .bool ok]) ((w.alloc (.cells #[.string a, .string b] 48)).drewN n))
    (hc : ∀ n, (Instr.lookup 40 (.map (some bc)) (.int .i32 x) false).run Try.prog ((w.alloc (.cells #[.string a, .string b] 48)).drewN n) = .ok (.bool out) ((w.alloc (.cells #[.string a, .string b] 48)).drewN n)) :
    Calls Try.prog 26 #[.pointer (some ⟨s, 0, none⟩), .agg #[.string a, .string b]] w fun e w' => e = .returned (.bool (ok && out)) ∧ Keeps w w' := by
  have l1 := cell_lt h1
  have l3 := cell_lt h3
  go_enter Try.func26, Try.ntmps26
  go_wp2
  go_quiet (fail)
  cases ok
  · go_wp2
    go_ret
    exact ⟨rfl, ((Keeps.refl _).alloc _).drewN _⟩
  · go_wp2
    go_ret
    exact ⟨rfl, ((Keeps.refl _).alloc _).drewN _⟩

set_option maxHeartbeats 400000 in
theorem zzbears_core (s : Nat) (a b : ByteArray) (r : Bool) (w : World)
    (h : ∀ w0, Keeps w w0 → Calls Try.prog 26 #[.pointer (some ⟨s, 0, none⟩), .agg #[.string a, .string b]] w0 fun e w' => e = .returned (.bool r) ∧ Keeps w0 w') :
    Calls Try.prog 15 #[.pointer (some ⟨s, 0, none⟩), .agg #[.string a, .string b]] w fun e w' => e = .returned (.bool r) ∧ Keeps w w' := by
  have H : Hid (∀ w0, Keeps w w0 → Calls Try.prog 26 #[.pointer (some ⟨s, 0, none⟩), .agg #[.string a, .string b]] w0 fun e w' => e = .returned (.bool r) ∧ Keeps w0 w') := h
  clear h
  go_enter Try.func15, Try.ntmps15
  go_wp2_with (go_at_call 26; refine (H.out _ ((Keeps.refl _).alloc _)).mono ?_; rintro e w' ⟨rfl, hk⟩)
  go_ret
  exact ⟨rfl, ((Keeps.refl _).alloc _).trans hk⟩

def roleIdx (rs : List Role) (r : Role) : Option Nat := rs.findIdx? (fun x => decide (x = r))
/-- What 'bears' answers: the role's number is in the set. -/
def bearsB (rs : List Role) (cone : List Int) (r : Role) : Bool :=
  match roleIdx rs r with
  | some i => cone.contains (i : Int)
  | none => false

/-- A side as 'bears' sees it. -/
def SideIs (w : World) (v : Value) (rs : List Role) (cone : List Int) : Prop :=
  ∃ s g bi bc, v = .pointer (some ⟨s, 0, none⟩) ∧ w.cell? ⟨s, 0, none⟩ = some (.pointer (some ⟨g, 0, none⟩)) ∧ w.cell? ⟨s, 2, none⟩ = some (.map (some bc)) ∧ w.cell? ⟨g, 0, none⟩ = some (.map (some bi)) ∧ IndexIs w bi rs ∧ SetIs w bc cone ∧ rs.length ≤ 4096
theorem SideIs.keep {w w' : World} {v : Value} {rs : List Role} {cone : List Int} (h : SideIs w v rs cone) (hb : Keeps w w') : SideIs w' v rs cone := by
  obtain ⟨s, g, bi, bc, rfl, h1, h2, h3, h4, h5, h6⟩ := h
  exact ⟨s, g, bi, bc, rfl, hb.cell h1, hb.cell h2, hb.cell h3, h4.keep hb, h5.keep hb, h6⟩

theorem roleIdx_some {rs : List Role} {i : Nat} (hd : rs.Nodup) (hi : i < rs.length) : roleIdx rs rs[i] = some i := by
  unfold roleIdx
  rw [List.findIdx?_eq_some_iff_getElem]
  refine ⟨hi, by simp, fun j hj => ?_⟩
  simp
  intro hji
  have := (List.getElem_inj hd).1 hji
  omega
theorem roleIdx_none {rs : List Role} {r : Role} (h : r ∉ rs) : roleIdx rs r = none := by
  unfold roleIdx
  rw [List.findIdx?_eq_none_iff]
  intro x hx
  simp
  intro e
  exact h (e ▸ hx)

theorem bears_any {v : Value} {rs : List Role} {cone : List Int} (r : Role) (w : World) (h : SideIs w v rs cone) (hr1 : r.1.size ≤ maxLen) (hr2 : r.2.size ≤ maxLen) :
    Calls Try.prog 15 #[v, roleV r] w fun e w' => e = .returned (.bool (bearsB rs cone r)) ∧ Keeps w w' := by
  obtain ⟨s, g, bi, bc, rfl, h1, h2, h3, h4, h5, h6⟩ := h
  refine zzbears_core s r.1 r.2 _ w (fun w0 hk0 => ?_)
  have hk : ∀ n, Keeps w ((w0.alloc (.cells #[.string r.1, .string r.2] 48)).drewN n) := fun n => (hk0.alloc _).drewN n
  by_cases hr : r ∈ rs
  · obtain ⟨i, hi, hri⟩ := List.getElem_of_mem hr
    subst hri
    have hx : -2147483648 ≤ (i : Int) ∧ (i : Int) ≤ 2147483647 := by omega
    have hb : bearsB rs cone rs[i] = (true && cone.contains (i : Int)) := by
      simp only [bearsB, roleIdx_some h4.2.2 hi, Bool.true_and]
    rw [hb]
    exact bears_core s g bi bc rs[i].1 rs[i].2 (i : Int) true _ w0 (hk0.cell h1) (hk0.cell h2) (hk0.cell h3) (fun n => (h4.keep (hk n)).look_hit hi) (fun n => (h5.keep (hk n)).look hx)
  · have hb : bearsB rs cone r = (false && cone.contains 0) := by
      simp only [bearsB, roleIdx_none hr, Bool.false_and]
    rw [hb]
    exact bears_core s g bi bc r.1 r.2 0 false _ w0 (hk0.cell h1) (hk0.cell h2) (hk0.cell h3) (fun n => (h4.keep (hk n)).look_miss hr1 hr2 hr) (fun n => (h5.keep (hk n)).look (by omega))
end Go.Proofs.Qxb6613887a
