import Derived.Test.Qxb6612559aBase
namespace Go.Proofs.Qxb6612559a
open Go.RowKit

def BoolSays (e : Ending) (p : Prop) : Prop := ∃ r : Bool, e = .returned (.bool r) ∧ (r = true → p)
theorem BoolSays.no {p : Prop} : BoolSays (.returned (.bool false)) p := ⟨_, rfl, fun h => by cases h⟩
theorem BoolSays.yes {p : Prop} (h : p) : BoolSays (.returned (.bool true)) p := ⟨_, rfl, fun _ => h⟩

set_option maxHeartbeats 1000000 in
theorem bytes_any (v0 v1 : Value) (ks : List ByteArray) (zs : List Int) (w : World) (h0 : RowOf w IsStr v0 ks) (h1 : RowOf w IsI64 v1 zs) :
    Calls Try.prog 4 #[v0, v1] w fun e w' => BoolSays e True ∧ w' = w := by
  obtain ⟨a0, cap0, rfl, _⟩ := h0.shape
  obtain ⟨a1, cap1, rfl, _⟩ := h1.shape
  have hm0 := h0.1
  have hm1 := h1.1
  unfold maxLen at hm0 hm1
  go_enter Try.func4, Try.ntmps4
  go_wp2
  any_goals (go_ret; exact ⟨BoolSays.no, rfl⟩)
  go_loop [5, 6] (fun t i => ∃ (k : Nat) (z : Int), k ≤ ks.length ∧ i = .int .i64 k ∧ t = .int .i64 z ∧ 0 ≤ z ∧ z ≤ 1048576) (fun _ i => ks.length - (intOf i).toNat)
  case atStart => exact ⟨0, _, Nat.zero_le _, rfl, rfl, by omega, by omega⟩
  case round =>
    obtain ⟨k, z, hk, rfl, rfl, hz0, hz1⟩ := hrel
    by_cases hlt : k < ks.length
    · obtain ⟨b0, off0, x0, rfl, d0, ⟨rfl, s0⟩⟩ := h0.at hlt
      unfold maxLen at s0
      go_wp2
      any_goals (go_ret; exact ⟨BoolSays.no, rfl⟩)
      case roundEnd => exact ⟨⟨k + 1, _, by omega, by go_num, rfl, by omega, by omega⟩, by simp [intOf]; omega⟩
    · go_wp2
      any_goals (go_ret; first | exact ⟨BoolSays.no, rfl⟩ | exact ⟨BoolSays.yes trivial, rfl⟩)

end Go.Proofs.Qxb6612559a
