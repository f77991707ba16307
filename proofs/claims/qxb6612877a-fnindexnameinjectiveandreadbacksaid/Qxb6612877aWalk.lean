import Derived.Test.Qxb6612877aRows
import Derived.WalkKit
import Derived.WalkSpells
import Derived.WalkLawsBesides
import Derived.ProofKit
import Derived.BigQuiet
namespace Go.Proofs.Qxb6612877a
open Go.RowKit

def BoolSays (e : Ending) (p : Prop) : Prop := ∃ r : Bool, e = .returned (.bool r) ∧ (r = true → p)
theorem BoolSays.no {p : Prop} : BoolSays (.returned (.bool false)) p := ⟨_, rfl, fun h => by cases h⟩
theorem BoolSays.yes {p : Prop} (h : p) : BoolSays (.returned (.bool true)) p := ⟨_, rfl, fun _ => h⟩

set_option maxHeartbeats 1000000 in
theorem bytes_any (a0 a1 a2 a3 a4 a5 : ByteArray) (w0 : a0.size ≤ maxLen) (w1 : a1.size ≤ maxLen) (w2 : a2.size ≤ maxLen) (w3 : a3.size ≤ maxLen) (w4 : a4.size ≤ maxLen) (w5 : a5.size ≤ maxLen) (w : World) :
    Calls Try.prog 4 #[.string a0, .string a1, .string a2, .string a3, .string a4, .string a5] w fun e w' => BoolSays e (a0.size + a1.size + a2.size + a3.size + a4.size + a5.size ≤ 1048576) ∧ w' = w := by
  unfold maxLen at w0 w1 w2 w3 w4 w5
  go_enter Try.func4, Try.ntmps4
  go_wp2
  any_goals (go_ret; first | exact ⟨BoolSays.no, rfl⟩ | exact ⟨BoolSays.yes (by omega), rfl⟩)

/-- It returns a bool; where that is false, p. -/
def NoSays (e : Ending) (p : Prop) : Prop := ∃ r : Bool, e = .returned (.bool r) ∧ (r = false → p)
theorem NoSays.yes {p : Prop} : NoSays (.returned (.bool true)) p := ⟨_, rfl, fun h => by cases h⟩
theorem NoSays.no {p : Prop} (h : p) : NoSays (.returned (.bool false)) p := ⟨_, rfl, fun _ => h⟩
/-- No byte is '_'. -/
def Plain (s : ByteArray) : Prop := ∀ i (h : i < s.size), s[i] ≠ 95

theorem ne95 {b : UInt8} (h : (((b.toNat : Nat) : Int) == 95) = false) : b ≠ 95 := fun e => by subst e; exact absurd h (by decide)

set_option maxHeartbeats 1000000 in
theorem under_any (s : ByteArray) (hs : s.size ≤ maxLen) (w : World) :
    Calls Try.prog 5 #[.string s] w fun e w' => NoSays e (Plain s) ∧ w' = w := by
  unfold maxLen at hs
  go_enter Try.func5, Try.ntmps5
  go_wp2
  go_loop [3] (fun i => ∃ (k : Nat), k ≤ s.size ∧ i = .int .i64 k ∧ ∀ j (_ : j < k) (h : j < s.size), s[j] ≠ 95) (fun i => s.size - (intOf i).toNat)
  case atStart => exact ⟨0, Nat.zero_le _, rfl, fun j hj => by omega⟩
  case round =>
    obtain ⟨k, hk, rfl, hA⟩ := hrel
    by_cases hlt : k < s.size
    · go_wp2
      case roundEnd =>
        rename_i h
        refine ⟨⟨k + 1, by omega, by go_num, fun j hj hj' => ?_⟩, by simp [intOf]; omega⟩
        by_cases e : j = k
        · subst e; exact ne95 h
        · exact hA j (by omega) hj'
      go_ret
      exact ⟨NoSays.yes, rfl⟩
    · go_wp2
      go_ret
      exact ⟨NoSays.no fun i hi => hA i (by omega) hi, rfl⟩

set_option maxHeartbeats 1000000 in
theorem name_any (a b c : ByteArray) (ha : a.size ≤ 65536) (hb : b.size ≤ 65536) (hc : c.size ≤ 65536) (w : World) :
    Calls Try.prog 6 #[.string a, .string b, .string c] w fun e w' => e = .returned (.string (((⟨#[79, 70, 73, 95]⟩ ++ a ++ ⟨#[95]⟩ ++ b ++ ⟨#[95]⟩ ++ c ++ ⟨#[46, 84, 88, 84]⟩ : ByteArray)))) ∧ Grown w w' := by
  go_enter Try.func6, Try.ntmps6
  go_wp2_with fail
  go_enter Try.func8, Try.ntmps8
  go_wp2
  go_ret
  exact ⟨rfl, by repeat (first | exact Grown.refl _ | apply Grown.drew | apply Grown.alloc)⟩

theorem is95 {b : UInt8} (h : b = 95) : (((b.toNat : Nat) : Int) == 95) = true := by subst h; decide
theorem not95 {b : UInt8} (h : b ≠ 95) : (((b.toNat : Nat) : Int) == 95) = false := by
  rw [beq_eq_false_iff_ne]
  intro e
  exact h (UInt8.toNat_inj.1 (by have : b.toNat = 95 := by omega
                                 exact this))

theorem grown_drewN (w : World) (n : Nat) : Grown w (w.drewN n) := by
  induction n with
  | zero => exact Grown.refl w
  | succ n ih => exact ih.drew

set_option maxHeartbeats 1000000 in
theorem back_any (n : ByteArray) (p q : Nat) (hp4 : 4 ≤ p) (hpq : p < q) (hq : q + 5 ≤ n.size) (hn : n.size ≤ 1000000) (np : n[p] = 95) (nq : n[q] = 95)
    (h1 : ∀ i (_ : i < p) (_ : 4 ≤ i), n[i] ≠ 95) (h2 : ∀ i (_ : i < q) (_ : p < i), n[i] ≠ 95) (ho : n.extract 0 4 = ⟨#[79, 70, 73, 95]⟩) (ht : n.extract (n.size - 4) n.size = ⟨#[46, 84, 88, 84]⟩) (w : World) :
    Calls Try.prog 7 #[.string n] w fun e w' => e = .returned (.tuple #[.string (n.extract 4 p), .string (n.extract (p + 1) q), .string (n.extract (q + 1) (n.size - 4)), .bool true]) ∧ Grown w w' := by
  have hrs : (n.extract (q + 1) n.size).size = n.size - (q + 1) := by simp
  have hrt : (n.extract (q + 1) n.size).extract (n.size - (q + 1) - 4) (n.size - (q + 1)) = ⟨#[46, 84, 88, 84]⟩ := by
    rw [ByteArray.extract_extract, ← ht]
    congr 1 <;> omega
  have hre : (n.extract (q + 1) n.size).extract 0 (n.size - (q + 1) - 4) = n.extract (q + 1) (n.size - 4) := by
    rw [ByteArray.extract_extract]
    congr 1; omega
  go_enter Try.func7, Try.ntmps7
  go_wp2
  go_loop [6] (fun i => ∃ (k : Nat), 4 ≤ k ∧ k ≤ p ∧ i = .int .i64 k) (fun i => p - (intOf i).toNat)
  case atStart => exact ⟨4, by omega, by omega, rfl⟩
  case round =>
    obtain ⟨k, hk4, hk, rfl⟩ := hrel
    by_cases hlt : k < p
    · have hne := not95 (h1 k hlt hk4)
      go_wp2
      case roundEnd => exact ⟨⟨k + 1, by omega, by omega, by go_num⟩, by simp [intOf]; omega⟩
    · obtain rfl : k = p := by omega
      have hp := is95 np
      go_wp2
      go_loop [7] (fun i => ∃ (m : Nat), k < m ∧ m ≤ q ∧ i = .int .i64 m) (fun i => q - (intOf i).toNat)
      case atStart => exact ⟨k + 1, by omega, by omega, by go_num⟩
      case round =>
        obtain ⟨m, hkm, hm, rfl⟩ := hrel
        by_cases hlt : m < q
        · have hne := not95 (h2 m hlt hkm)
          go_wp2
          case roundEnd => exact ⟨⟨m + 1, by omega, by omega, by go_num⟩, by simp [intOf]; omega⟩
        · obtain rfl : m = q := by omega
          have hq5 := is95 nq
          go_wp2
          go_quiet (fail)
          go_wp2
          refine bodyPost_ret (v := .tuple #[.string (n.extract 4 k), .string (n.extract (k + 1) m), .string (n.extract (m + 1) (n.size - 4)), .bool true]) (by simp [results, Try.results7, go_sem]; exact hre) rfl ⟨rfl, grown_drewN _ _⟩
end Go.Proofs.Qxb6612877a
