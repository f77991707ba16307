import Derived.Test.Qxb6613887aProg
import Derived.Test.Qxb6613887aBase
namespace Go.Proofs.Qxb6613887a
open Go.RowKit

set_option maxHeartbeats 400000 in
theorem inRange_any (x n : Int) (w : World) (hx : -2147483648 ≤ x) (hx' : x ≤ 2147483647) :
    Calls Try.prog 8 #[.int .i32 x, .int .i64 n] w fun e w' => e = .returned (.bool (decide (0 ≤ x ∧ x < n))) ∧ w' = w := by
  by_cases h : 0 ≤ x
  · by_cases h2 : x < n
    · go_enter Try.func8, Try.ntmps8
      go_wp2
      go_ret
      exact ⟨by simp [h, h2], rfl⟩
    · go_enter Try.func8, Try.ntmps8
      go_wp2
      go_ret
      exact ⟨by simp [h2], rfl⟩
  · have h3 : decide (0 ≤ x ∧ x < n) = false := by simp; omega
    go_enter Try.func8, Try.ntmps8
    go_wp2
    go_ret
    exact ⟨rfl, rfl⟩

set_option maxHeartbeats 400000 in
theorem add_any (t k : Int) (w : World) (ht : 0 ≤ t) (ht' : t ≤ 9223372036854775807) (hk : 0 ≤ k) (hk' : k ≤ 9223372036854775807) :
    Calls Try.prog 21 #[.int .i64 t, .int .i64 k] w fun e w' => (∃ r : Int, 0 ≤ r ∧ r ≤ 1048577 ∧ e = .returned (.int .i64 r)) ∧ w' = w := by
  by_cases h : 1048576 < k
  · go_enter Try.func21, Try.ntmps21
    go_wp2
    go_ret
    exact ⟨⟨_, by omega, by omega, rfl⟩, rfl⟩
  · by_cases h2 : 1048576 - k < t
    · go_enter Try.func21, Try.ntmps21
      go_wp2
      go_ret
      exact ⟨⟨_, by omega, by omega, rfl⟩, rfl⟩
    · go_enter Try.func21, Try.ntmps21
      go_wp2
      go_ret
      exact ⟨⟨t + k, by omega, by omega, rfl⟩, rfl⟩

set_option maxHeartbeats 400000 in
theorem policyRole_any (a b : ByteArray) (w : World) :
    Calls Try.prog 16 #[.agg #[.string a, .string b]] w fun e w' => e = .returned (.agg #[.string a, .string b]) ∧ Keeps w w' := by
  go_enter Try.func16, Try.ntmps16
  go_wp2
  exact bodyPost_ret (v := .agg #[.string a, .string b]) (by simp [results, Try.results16, go_sem]) rfl ⟨rfl, ((Keeps.refl _).alloc _).alloc _⟩

set_option maxHeartbeats 400000 in
theorem newLinkInto_any (a : Int) (b : ByteArray) (w : World) :
    Calls Try.prog 24 #[.int .i32 a, .string b] w fun e w' => e = .returned (.agg #[.int .i32 a, .string b]) ∧ Keeps w w' := by
  go_enter Try.func24, Try.ntmps24
  go_wp2
  exact bodyPost_ret (v := .agg #[.int .i32 a, .string b]) (by simp [results, Try.results24, go_sem]) rfl ⟨rfl, (Keeps.refl _).alloc _⟩

/-- The graph's struct: its five cells. -/
def GraphAt (w : World) (v : Value) (ix ro dr li pa : Value) : Prop :=
  ∃ g, v = .pointer (some ⟨g, 0, none⟩) ∧ w.cell? ⟨g, 0, none⟩ = some ix ∧ w.cell? ⟨g, 1, none⟩ = some ro ∧ w.cell? ⟨g, 2, none⟩ = some dr ∧ w.cell? ⟨g, 3, none⟩ = some li ∧ w.cell? ⟨g, 4, none⟩ = some pa

theorem GraphAt.keep {w w' : World} {v ix ro dr li pa : Value} (h : GraphAt w v ix ro dr li pa) (hb : Keeps w w') : GraphAt w' v ix ro dr li pa := by
  obtain ⟨g, rfl, h0, h1, h2, h3, h4⟩ := h
  exact ⟨g, rfl, hb.cell h0, hb.cell h1, hb.cell h2, hb.cell h3, hb.cell h4⟩

set_option maxHeartbeats 400000 in
theorem newRoleGraph_any (b : Nat) (a1 a2 a3 a4 : Option Addr) (n1 n2 n3 n4 c1 c2 c3 c4 : Nat) (w : World) :
    Calls Try.prog 23 #[.map (some b), .slice a1 n1 c1, .slice a2 n2 c2, .slice a3 n3 c3, .slice a4 n4 c4] w fun e w' => ∃ v, e = .returned v ∧ Keeps w w' ∧ GraphAt w' v (.map (some b)) (.slice a1 n1 c1) (.slice a2 n2 c2) (.slice a3 n3 c3) (.slice a4 n4 c4) := by
  go_enter Try.func23, Try.ntmps23
  go_wp2
  go_ret
  exact ⟨_, rfl, (Keeps.refl _).alloc _, _, rfl, by simp [go_sem], by simp [go_sem], by simp [go_sem], by simp [go_sem], by simp [go_sem]⟩

/-- The side's struct: what 'bears' reads of it. -/
def SideAt (w : World) (v : Value) (g co : Value) : Prop :=
  ∃ s, v = .pointer (some ⟨s, 0, none⟩) ∧ w.cell? ⟨s, 0, none⟩ = some g ∧ w.cell? ⟨s, 2, none⟩ = some co
theorem SideAt.keep {w w' : World} {v g co : Value} (h : SideAt w v g co) (hb : Keeps w w') : SideAt w' v g co := by
  obtain ⟨s, rfl, h0, h1⟩ := h
  exact ⟨s, rfl, hb.cell h0, hb.cell h1⟩

set_option maxHeartbeats 400000 in
theorem newSide_any (g : Addr) (b : Nat) (w : World) :
    Calls Try.prog 14 #[.pointer (some g), .int .i64 1, .map (some b), .map none] w fun e w' => ∃ v, e = .returned v ∧ Keeps w w' ∧ SideAt w' v (.pointer (some g)) (.map (some b)) := by
  go_enter Try.func14, Try.ntmps14
  go_wp2
  go_ret
  exact ⟨_, rfl, (Keeps.refl _).alloc _, _, rfl, by simp [go_sem], by simp [go_sem]⟩
end Go.Proofs.Qxb6613887a
