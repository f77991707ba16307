import Derived.Test.Qxb6612877aPlain
namespace Go.Proofs.Qxb6612877a
open Go.RowKit

theorem bytes_eq {x y : ByteArray} : x.toList = y.toList ↔ x = y := by
  rw [ByteArray.toList_eq, ByteArray.toList_eq]
  constructor
  · intro h
    cases x; cases y
    simp only [ByteArray.mk.injEq]
    exact Array.toList_inj.1 h
  · intro h; rw [h]
theorem grownThen {a b c : World} (h : Grown a b) (k : Grown b c) : Grown a c :=
  ⟨World.keptBut_trans h.1 k.1, fun x => (k.2.1 x).trans (h.2.1 x), Nat.le_trans h.2.2 k.2.2⟩

section
variable {a b c a' b' c' : ByteArray} (pa : Plain a) (pb : Plain b) (pa' : Plain a') (pb' : Plain b')
include pa pb pa' pb'
theorem last_yes (h1 : a.toList = a'.toList) (h2 : b.toList = b'.toList) : (((nameOf a b c).toList == (nameOf a' b' c').toList) == (c.toList == c'.toList)) = true := by
  obtain rfl := bytes_eq.1 h1
  obtain rfl := bytes_eq.1 h2
  rw [beq_iff_eq, Bool.eq_iff_iff, beq_iff_eq, beq_iff_eq, bytes_eq, bytes_eq]
  exact ⟨fun h => (name_inj pa pb pa' pb' h).2.2, fun h => by rw [h]⟩
theorem last_no (h : ¬ (a.toList = a'.toList ∧ b.toList = b'.toList)) : (!((nameOf a b c).toList == (nameOf a' b' c').toList)) = true := by
  rw [Bool.not_eq_true', beq_eq_false_iff_ne]
  intro e
  have := name_inj pa pb pa' pb' (bytes_eq.1 e)
  exact h ⟨by rw [this.1], by rw [this.2.1]⟩
end

set_option maxHeartbeats 4000000 in
theorem main_any (a0 : ByteArray) (a1 : ByteArray) (a2 : ByteArray) (a3 : ByteArray) (a4 : ByteArray) (a5 : ByteArray) (w0 : a0.size ≤ maxLen) (w1 : a1.size ≤ maxLen) (w2 : a2.size ≤ maxLen) (w3 : a3.size ≤ maxLen) (w4 : a4.size ≤ maxLen) (w5 : a5.size ≤ maxLen) (w : World) :
    Calls Try.prog 3 #[.string a0, .string a1, .string a2, .string a3, .string a4, .string a5] w fun e w' => e = .returned (.bool true) ∧ Grown w w' := by
  go_enter Try.func3, Try.ntmps3
  go_wp2_with fail
  refine (bytes_any a0 a1 a2 a3 a4 a5 w0 w1 w2 w3 w4 w5 w).mono ?_
  rintro e w' ⟨⟨r, rfl, _⟩, rfl⟩
  cases r
  · go_wp2_with fail
    go_ret
    exact ⟨rfl, Grown.refl _⟩
  have v0 := w0
  have v1 := w1
  have v2 := w2
  have v3 := w3
  have v4 := w4
  have v5 := w5
  unfold maxLen at v0 v1 v2 v3 v4 v5
  go_wp2_with fail
  any_goals (go_ret; exact ⟨rfl, Grown.refl _⟩)
  have hz' : (((((a0.size ≤ 65536 ∧ a1.size ≤ 65536) ∧ a2.size ≤ 65536) ∧ a3.size ≤ 65536) ∧ a4.size ≤ 65536) ∧ a5.size ≤ 65536) := by omega
  clear v0 v1 v2 v3 v4 v5
  obtain ⟨⟨⟨⟨⟨z0, z1⟩, z2⟩, z3⟩, z4⟩, z5⟩ := hz'
  refine (under_any a0 w0 _).mono ?_
  rintro e y1 ⟨⟨r, rfl, p0⟩, rfl⟩
  cases r
  case true =>
    clear p0
    go_wp2_with fail
    go_ret
    exact ⟨rfl, Grown.refl _⟩
  replace p0 := p0 rfl
  go_wp2_with fail
  refine (under_any a1 w1 _).mono ?_
  rintro e y1 ⟨⟨r, rfl, p1⟩, rfl⟩
  cases r
  case true =>
    clear p1
    go_wp2_with fail
    go_ret
    exact ⟨rfl, Grown.refl _⟩
  replace p1 := p1 rfl
  go_wp2_with fail
  refine (under_any a3 w3 _).mono ?_
  rintro e y1 ⟨⟨r, rfl, p3⟩, rfl⟩
  cases r
  case true =>
    clear p3
    go_wp2_with fail
    go_ret
    exact ⟨rfl, Grown.refl _⟩
  replace p3 := p3 rfl
  go_wp2_with fail
  refine (under_any a4 w4 _).mono ?_
  rintro e y1 ⟨⟨r, rfl, p4⟩, rfl⟩
  cases r
  case true =>
    clear p4
    go_wp2_with fail
    go_ret
    exact ⟨rfl, Grown.refl _⟩
  replace p4 := p4 rfl
  go_wp2_with fail
  refine (name_any a0 a1 a2 z0 z1 z2 _).mono ?_
  rintro e x1 ⟨rfl, g1⟩
  go_wp2_with fail
  refine (name_any a3 a4 a5 z3 z4 z5 _).mono ?_
  rintro e x2 ⟨rfl, g2⟩
  go_wp2_with fail
  refine (read_any a0 a1 a2 z0 z1 z2 p0 p1 _).mono ?_
  rintro e x3 ⟨rfl, g3⟩
  go_wp2_with fail
  refine (read_any a3 a4 a5 z3 z4 z5 p3 p4 _).mono ?_
  rintro e x4 ⟨rfl, g4⟩
  go_wp2_with fail
  · rename_i h1 h2
    go_ret
    exact ⟨congrArg (fun b => Ending.returned (.bool b)) (last_yes p0 p1 p3 p4 h1 h2), grownThen (grownThen g1 g2) (grownThen g3 g4)⟩
  · rename_i h1 h2
    go_ret
    exact ⟨congrArg (fun b => Ending.returned (.bool b)) (last_no p0 p1 p3 p4 fun h => h2 h.2), grownThen (grownThen g1 g2) (grownThen g3 g4)⟩
  · rename_i h1
    go_ret
    exact ⟨congrArg (fun b => Ending.returned (.bool b)) (last_no p0 p1 p3 p4 fun h => h1 h.1), grownThen (grownThen g1 g2) (grownThen g3 g4)⟩
end Go.Proofs.Qxb6612877a
