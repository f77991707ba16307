import Derived.Test.Qxb6612877aWalk
namespace Go.Proofs.Qxb6612877a
open Go.RowKit

/-- The index file's name. -/
def nameOf (a b c : ByteArray) : ByteArray := ⟨#[79, 70, 73, 95]⟩ ++ a ++ ⟨#[95]⟩ ++ b ++ ⟨#[95]⟩ ++ c ++ ⟨#[46, 84, 88, 84]⟩

theorem s4 : (⟨#[79, 70, 73, 95]⟩ : ByteArray).size = 4 := rfl
theorem t4 : (⟨#[46, 84, 88, 84]⟩ : ByteArray).size = 4 := rfl
theorem u1 : (⟨#[95]⟩ : ByteArray).size = 1 := rfl

theorem name_size (a b c : ByteArray) : (nameOf a b c).size = 4 + a.size + 1 + b.size + 1 + c.size + 4 := by
  simp only [nameOf, ByteArray.size_append, s4, t4, u1]

/-- The byte at i of x ++ y ++ z that lies in y. -/
theorem mid_get {x y z : ByteArray} {i : Nat} (h1 : x.size ≤ i) (h2 : i < x.size + y.size) (h : i < (x ++ y ++ z).size) : (x ++ y ++ z)[i] = y[i - x.size] := by
  rw [ByteArray.getElem_append_left (by rw [ByteArray.size_append]; exact h2), ByteArray.getElem_append_right h1]
theorem mid_extract {x y z : ByteArray} {i j : Nat} (h1 : i = x.size) (h2 : j = x.size + y.size) : (x ++ y ++ z).extract i j = y := by
  subst h1 h2
  rw [ByteArray.extract_append, ByteArray.extract_append_eq_right rfl rfl, ByteArray.size_append, Nat.sub_self]
  simp

theorem name_split1 (a b c : ByteArray) : nameOf a b c = ⟨#[79, 70, 73, 95]⟩ ++ a ++ (⟨#[95]⟩ ++ b ++ ⟨#[95]⟩ ++ c ++ ⟨#[46, 84, 88, 84]⟩) := by
  simp only [nameOf, ByteArray.append_assoc]
theorem name_split2 (a b c : ByteArray) : nameOf a b c = (⟨#[79, 70, 73, 95]⟩ ++ a) ++ ⟨#[95]⟩ ++ (b ++ ⟨#[95]⟩ ++ c ++ ⟨#[46, 84, 88, 84]⟩) := by
  simp only [nameOf, ByteArray.append_assoc]
theorem name_split3 (a b c : ByteArray) : nameOf a b c = (⟨#[79, 70, 73, 95]⟩ ++ a ++ ⟨#[95]⟩) ++ b ++ (⟨#[95]⟩ ++ c ++ ⟨#[46, 84, 88, 84]⟩) := by
  simp only [nameOf, ByteArray.append_assoc]
theorem name_split4 (a b c : ByteArray) : nameOf a b c = (⟨#[79, 70, 73, 95]⟩ ++ a ++ ⟨#[95]⟩ ++ b) ++ ⟨#[95]⟩ ++ (c ++ ⟨#[46, 84, 88, 84]⟩) := by
  simp only [nameOf, ByteArray.append_assoc]
theorem name_split5 (a b c : ByteArray) : nameOf a b c = (⟨#[79, 70, 73, 95]⟩ ++ a ++ ⟨#[95]⟩ ++ b ++ ⟨#[95]⟩) ++ c ++ ⟨#[46, 84, 88, 84]⟩ := rfl
theorem name_split0 (a b c : ByteArray) : nameOf a b c = ⟨#[79, 70, 73, 95]⟩ ++ (a ++ ⟨#[95]⟩ ++ b ++ ⟨#[95]⟩ ++ c ++ ⟨#[46, 84, 88, 84]⟩) := by
  simp only [nameOf, ByteArray.append_assoc]

theorem get_of_eq {x y : ByteArray} (e : x = y) {i : Nat} (h : i < x.size) : x[i] = y[i]'(e ▸ h) := by subst e; rfl

/-- p and q are the places of the first two '_' at or past 4. -/
structure Cut (n : ByteArray) (p q : Nat) : Prop where
  hp : 4 ≤ p
  hpq : p < q
  hq : q < n.size
  np : n[p] = 95
  nq : n[q] = 95
  h1 : ∀ i (_ : i < p) (_ : 4 ≤ i), n[i] ≠ 95
  h2 : ∀ i (_ : i < q) (_ : p < i), n[i] ≠ 95

theorem Cut.same {n : ByteArray} {p q p' q' : Nat} (h : Cut n p q) (h' : Cut n p' q') : p = p' ∧ q = q' := by
  have e : p = p' := by
    apply Nat.le_antisymm
    · exact Nat.le_of_not_lt fun hlt => h.h1 p' hlt h'.hp h'.np
    · exact Nat.le_of_not_lt fun hlt => h'.h1 p hlt h.hp h.np
  subst e
  refine ⟨rfl, ?_⟩
  apply Nat.le_antisymm
  · exact Nat.le_of_not_lt fun hlt => h.h2 q' hlt h'.hpq h'.nq
  · exact Nat.le_of_not_lt fun hlt => h'.h2 q hlt h.hpq h.nq

theorem name_cut (a b c : ByteArray) (pa : Plain a) (pb : Plain b) : Cut (nameOf a b c) (4 + a.size) (4 + a.size + 1 + b.size) := by
  have hsz := name_size a b c
  exact ⟨by omega, by omega, by omega,
    by rw [get_of_eq (name_split2 a b c), mid_get (by simp only [ByteArray.size_append, s4]; omega) (by simp only [ByteArray.size_append, s4, u1]; omega)]
       simp only [ByteArray.size_append, s4, Nat.sub_self]; rfl,
    by rw [get_of_eq (name_split4 a b c), mid_get (by simp only [ByteArray.size_append, s4, u1]; omega) (by simp only [ByteArray.size_append, s4, u1]; omega)]
       simp only [ByteArray.size_append, s4, u1, Nat.sub_self]; rfl,
    fun i h1 h2 => by
      rw [get_of_eq (name_split1 a b c), mid_get (by simp only [s4]; omega) (by simp only [s4]; omega)]
      exact pa _ _,
    fun i h1 h2 => by
      rw [get_of_eq (name_split3 a b c), mid_get (by simp only [ByteArray.size_append, s4, u1]; omega) (by simp only [ByteArray.size_append, s4, u1]; omega)]
      exact pb _ _⟩
theorem name_1 (a b c : ByteArray) : (nameOf a b c).extract 4 (4 + a.size) = a := by rw [name_split1]; exact mid_extract rfl rfl
theorem name_2 (a b c : ByteArray) : (nameOf a b c).extract (4 + a.size + 1) (4 + a.size + 1 + b.size) = b := by
  rw [name_split3]; exact mid_extract (by simp only [ByteArray.size_append, s4, u1]) (by simp only [ByteArray.size_append, s4, u1])
theorem name_3 (a b c : ByteArray) : (nameOf a b c).extract (4 + a.size + 1 + b.size + 1) ((nameOf a b c).size - 4) = c := by
  rw [name_size, name_split5]; exact mid_extract (by simp only [ByteArray.size_append, s4, u1]) (by simp only [ByteArray.size_append, s4, u1]; omega)

theorem read_any (a b c : ByteArray) (ha : a.size ≤ 65536) (hb : b.size ≤ 65536) (hc : c.size ≤ 65536) (pa : Plain a) (pb : Plain b) (w : World) :
    Calls Try.prog 7 #[.string (nameOf a b c)] w fun e w' => e = .returned (.tuple #[.string a, .string b, .string c, .bool true]) ∧ Grown w w' := by
  have hsz := name_size a b c
  have C := name_cut a b c pa pb
  have := back_any (nameOf a b c) (4 + a.size) (4 + a.size + 1 + b.size) (by omega) (by omega) (by omega) (by omega) C.np C.nq C.h1 C.h2
    (by rw [name_split0]; exact ByteArray.extract_append_eq_left rfl)
    (by rw [hsz]; exact ByteArray.extract_append_eq_right (by simp only [ByteArray.size_append, s4, u1]; omega) (by simp only [ByteArray.size_append, s4, u1, t4])) w
  rw [name_1, name_2, name_3] at this
  exact this

theorem name_inj {a b c a' b' c' : ByteArray} (pa : Plain a) (pb : Plain b) (pa' : Plain a') (pb' : Plain b') (h : nameOf a b c = nameOf a' b' c') : a = a' ∧ b = b' ∧ c = c' := by
  have C := name_cut a b c pa pb
  have C' := name_cut a' b' c' pa' pb'
  rw [← h] at C'
  obtain ⟨e1, e2⟩ := C.same C'
  refine ⟨?_, ?_, ?_⟩
  · rw [← name_1 a b c, ← name_1 a' b' c', h, e1]
  · rw [← name_2 a b c, ← name_2 a' b' c', h, e2, e1]
  · rw [← name_3 a b c, ← name_3 a' b' c', h, e2]

end Go.Proofs.Qxb6612877a
