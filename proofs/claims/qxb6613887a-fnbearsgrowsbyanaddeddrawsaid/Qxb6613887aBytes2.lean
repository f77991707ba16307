import Derived.Test.Qxb6613887aBytes
namespace Go.Proofs.Qxb6613887a
open Go.RowKit

/-- It returns some int. -/
def IntSays (e : Ending) : Prop := ∃ t : Int, e = .returned (.int .i64 t)
theorem IntSays.mk (t : Int) : IntSays (.returned (.int .i64 t)) := ⟨t, rfl⟩

set_option maxRecDepth 100000 in
set_option maxHeartbeats 4000000 in
theorem graphBytes_any (v0 v1 v2 v3 : Value) (rs : List Role) (dss : List (List Int)) (ls : List (List Link)) (ps : List (List (List Int))) (q1 q2 : ByteArray) (w : World) (h0 : RolesI w v0 rs) (h1 : RowsI w v1 dss) (h2 : LinksI w v2 ls) (h3 : PartsI w v3 ps)
    (hq1 : q1.size ≤ maxLen) (hq2 : q2.size ≤ maxLen) :
    Calls Try.prog 6 #[v0, v1, v2, v3, .agg #[.string q1, .string q2]] w fun e w' => IntSays e ∧ Keeps w w' := by
  obtain ⟨a0, cap0, rfl, _⟩ := h0.shape
  obtain ⟨a1, cap1, rfl, _⟩ := h1.shape
  obtain ⟨a2, cap2, rfl, _⟩ := h2.shape
  obtain ⟨a3, cap3, rfl, _⟩ := h3.shape
  have hm0 := h0.1
  have hm1 := h1.1
  have hm2 := h2.1
  have hm3 := h3.1
  unfold maxLen at hm0 hm1 hm2 hm3 hq1 hq2
  have hK0 : Keeps w (w.alloc (.cells #[.string q1, .string q2] 27)) := (Keeps.refl w).alloc _
  replace h0 := h0.keep hK0
  replace h1 := h1.keep hK0
  replace h2 := h2.keep hK0
  replace h3 := h3.keep hK0
  go_enter Try.func6, Try.ntmps6
  go_wp2_with (go_at_call 21; refine (add_any _ _ _ (by omega) (by omega) (by omega) (by omega)).mono ?_; rintro e w' ⟨⟨r, hr0, hr1, rfl⟩, rfl⟩)
  any_goals (go_ret; exact ⟨IntSays.mk _, hK0⟩)
  go_loop [10, 11, 12] (fun _ t i => ∃ (k : Nat) (z : Int), k ≤ rs.length ∧ i = .int .i64 k ∧ t = .int .i64 z ∧ 0 ≤ z ∧ z ≤ 1048577) (fun _ _ i => rs.length - (intOf i).toNat)
  case atStart => exact ⟨0, _, Nat.zero_le _, rfl, rfl, by omega, by omega⟩
  case round =>
    obtain ⟨k, z, hk, rfl, rfl, hz0, hz1⟩ := hrel
    by_cases hlt : k < rs.length
    · obtain ⟨b0, off0, x0, x1, rfl, d0, d1, ⟨rfl, s0⟩, ⟨rfl, s1⟩⟩ := h0.at hlt
      unfold maxLen at s0 s1
      go_wp2_with (go_at_call 21; refine (add_any _ _ _ (by omega) (by omega) (by omega) (by omega)).mono ?_; rintro e w' ⟨⟨r, hr0, hr1, rfl⟩, rfl⟩)
      any_goals (go_ret; exact ⟨IntSays.mk _, hK0⟩)
      go_round
      case rel => exact ⟨k + 1, _, by omega, by go_num, rfl, by omega, by omega⟩
      case measure => simp [intOf]; omega
    · go_wp2
      go_loop [10, 11, 13] (fun _ t i => ∃ (k : Nat) (z : Int), k ≤ dss.length ∧ i = .int .i64 k ∧ t = .int .i64 z ∧ 0 ≤ z ∧ z ≤ 1048577) (fun _ _ i => dss.length - (intOf i).toNat)
      case atStart => exact ⟨0, _, Nat.zero_le _, rfl, rfl, by omega, by omega⟩
      case round =>
        clear hz0 hz1
        obtain ⟨k, z, hk, rfl, rfl, hz0, hz1⟩ := hrel
        by_cases hlt : k < dss.length
        · obtain ⟨b1, off1, u, rfl, c1, hu⟩ := h1.at hlt
          obtain ⟨au, capu, rfl, _⟩ := hu.shape
          have hul := hu.1
          unfold maxLen at hul
          by_cases hbig : dss[k].length ≤ 131072
          · go_wp2_with (go_at_call 21; refine (add_any _ _ _ (by omega) (by omega) (by omega) (by omega)).mono ?_; rintro e w' ⟨⟨r, hr0, hr1, rfl⟩, rfl⟩)
            any_goals (go_ret; exact ⟨IntSays.mk _, hK0⟩)
            go_round
            case rel => exact ⟨k + 1, _, by omega, by go_num, rfl, by omega, by omega⟩
            case measure => simp [intOf]; omega
          · go_wp2_with (go_at_call 21; refine (add_any _ _ _ (by omega) (by omega) (by omega) (by omega)).mono ?_; rintro e w' ⟨⟨r, hr0, hr1, rfl⟩, rfl⟩)
            go_ret
            exact ⟨IntSays.mk _, hK0⟩
        · go_wp2
          go_loop [10, 11, 14, 15] (fun _ t i _ => ∃ (k : Nat) (z : Int), k ≤ ls.length ∧ i = .int .i64 k ∧ t = .int .i64 z ∧ 0 ≤ z ∧ z ≤ 1048577) (fun _ _ i _ => ls.length - (intOf i).toNat)
          case atStart => exact ⟨0, _, Nat.zero_le _, rfl, rfl, by omega, by omega⟩
          case round =>
            clear hz0 hz1
            obtain ⟨k, z, hk, rfl, rfl, hz0, hz1⟩ := hrel
            by_cases hlt : k < ls.length
            · obtain ⟨b2, off2, u, rfl, c2, hu⟩ := h2.at hlt
              obtain ⟨au, capu, rfl, _⟩ := hu.shape
              have hul := hu.1
              unfold maxLen at hul
              go_wp2_with (go_at_call 21; refine (add_any _ _ _ (by omega) (by omega) (by omega) (by omega)).mono ?_; rintro e w' ⟨⟨r, hr0, hr1, rfl⟩, rfl⟩)
              any_goals (go_ret; exact ⟨IntSays.mk _, hK0⟩)
              go_loop [10, 11, 15] (fun _ t i => ∃ (m : Nat) (z : Int), m ≤ ls[k].length ∧ i = .int .i64 m ∧ t = .int .i64 z ∧ 0 ≤ z ∧ z ≤ 1048577) (fun _ _ i => ls[k].length - (intOf i).toNat)
              case atStart => exact ⟨0, _, Nat.zero_le _, rfl, rfl, by omega, by omega⟩
              case round =>
                clear hz0 hz1
                obtain ⟨m, z, hm, rfl, rfl, hz0, hz1⟩ := hrel
                by_cases hlt2 : m < ls[k].length
                · obtain ⟨b4, off4, y0, y1, rfl, e0, e1, ⟨rfl, _⟩, ⟨rfl, s1⟩⟩ := hu.at hlt2
                  unfold maxLen at s1
                  go_wp2_with (go_at_call 21; refine (add_any _ _ _ (by omega) (by omega) (by omega) (by omega)).mono ?_; rintro e w' ⟨⟨r, hr0, hr1, rfl⟩, rfl⟩)
                  any_goals (go_ret; exact ⟨IntSays.mk _, hK0⟩)
                  go_round
                  case rel => exact ⟨m + 1, _, by omega, by go_num, rfl, by omega, by omega⟩
                  case measure => simp [intOf]; omega
                · go_wp2
                  go_round
                  case rel => exact ⟨k + 1, _, by omega, by go_num, rfl, by omega, by omega⟩
                  case measure => simp [intOf]; omega
            · go_wp2
              go_loop [10, 11, 16, 17] (fun _ t i _ => ∃ (k : Nat) (z : Int), k ≤ ps.length ∧ i = .int .i64 k ∧ t = .int .i64 z ∧ 0 ≤ z ∧ z ≤ 1048577) (fun _ _ i _ => ps.length - (intOf i).toNat)
              case atStart => exact ⟨0, _, Nat.zero_le _, rfl, rfl, by omega, by omega⟩
              case round =>
                clear hz0 hz1
                obtain ⟨k, z, hk, rfl, rfl, hz0, hz1⟩ := hrel
                by_cases hlt : k < ps.length
                · obtain ⟨b3, off3, u, rfl, c3, hu⟩ := h3.at hlt
                  obtain ⟨au, capu, rfl, _⟩ := hu.shape
                  have hul := hu.1
                  unfold maxLen at hul
                  go_wp2_with (go_at_call 21; refine (add_any _ _ _ (by omega) (by omega) (by omega) (by omega)).mono ?_; rintro e w' ⟨⟨r, hr0, hr1, rfl⟩, rfl⟩)
                  any_goals (go_ret; exact ⟨IntSays.mk _, hK0⟩)
                  go_loop [10, 11, 17] (fun _ t i => ∃ (m : Nat) (z : Int), m ≤ ps[k].length ∧ i = .int .i64 m ∧ t = .int .i64 z ∧ 0 ≤ z ∧ z ≤ 1048577) (fun _ _ i => ps[k].length - (intOf i).toNat)
                  case atStart => exact ⟨0, _, Nat.zero_le _, rfl, rfl, by omega, by omega⟩
                  case round =>
                    clear hz0 hz1
                    obtain ⟨m, z, hm, rfl, rfl, hz0, hz1⟩ := hrel
                    by_cases hlt2 : m < ps[k].length
                    · obtain ⟨b4, off4, y, rfl, e0, hy⟩ := hu.at hlt2
                      obtain ⟨ay, capy, rfl, _⟩ := hy.shape
                      have hyl := hy.1
                      unfold maxLen at hyl
                      by_cases hbig : ps[k][m].length ≤ 131072
                      · go_wp2_with (go_at_call 21; refine (add_any _ _ _ (by omega) (by omega) (by omega) (by omega)).mono ?_; rintro e w' ⟨⟨r, hr0, hr1, rfl⟩, rfl⟩)
                        any_goals (go_ret; exact ⟨IntSays.mk _, hK0⟩)
                        go_round
                        case rel => exact ⟨m + 1, _, by omega, by go_num, rfl, by omega, by omega⟩
                        case measure => simp [intOf]; omega
                      · go_wp2_with (go_at_call 21; refine (add_any _ _ _ (by omega) (by omega) (by omega) (by omega)).mono ?_; rintro e w' ⟨⟨r, hr0, hr1, rfl⟩, rfl⟩)
                        go_ret
                        exact ⟨IntSays.mk _, hK0⟩
                    · go_wp2
                      go_round
                      case rel => exact ⟨k + 1, _, by omega, by go_num, rfl, by omega, by omega⟩
                      case measure => simp [intOf]; omega
                · go_wp2
                  go_ret
                  exact ⟨IntSays.mk _, hK0⟩
end Go.Proofs.Qxb6613887a
