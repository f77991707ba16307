import Derived.Test.Qxb6613887aShape2
namespace Go.Proofs.Qxb6613887a
open Go.RowKit

/-- It returns a bool; where it returns true, p. -/
def BoolSays (e : Ending) (p : Prop) : Prop := ∃ r : Bool, e = .returned (.bool r) ∧ (r = true → p)
theorem BoolSays.no {p : Prop} : BoolSays (.returned (.bool false)) p := ⟨_, rfl, fun h => by cases h⟩
theorem BoolSays.yes {p : Prop} (h : p) : BoolSays (.returned (.bool true)) p := ⟨_, rfl, fun _ => h⟩
def BytesOK (dss : List (List Int)) (ls : List (List Link)) (ps : List (List (List Int))) : Prop :=
  (∀ i (hi : i < dss.length), dss[i].length ≤ 1048576) ∧ (∀ i (hi : i < ls.length), ls[i].length ≤ 1048576) ∧ ∀ i (hi : i < ps.length), ps[i].length ≤ 1048576 ∧ ∀ j (hj : j < ps[i].length), ps[i][j].length ≤ 1048576

set_option maxRecDepth 100000 in
set_option maxHeartbeats 4000000 in
theorem bytes_any (v0 v1 v2 v3 : Value) (rs : List Role) (dss : List (List Int)) (ls : List (List Link)) (ps : List (List (List Int))) (x : Int) (q1 q2 : ByteArray) (w : World) (h0 : RolesI w v0 rs) (h1 : RowsI w v1 dss) (h2 : LinksI w v2 ls) (h3 : PartsI w v3 ps)
    (hq1 : q1.size ≤ maxLen) (hq2 : q2.size ≤ maxLen) :
    Calls Try.prog 5 #[v0, v1, v2, v3, .int .i32 x, .agg #[.string q1, .string q2]] w fun e w' => BoolSays e (BytesOK dss ls ps) ∧ Keeps w w' := by
  obtain ⟨a0, cap0, rfl, _⟩ := h0.shape
  obtain ⟨a1, cap1, rfl, _⟩ := h1.shape
  obtain ⟨a2, cap2, rfl, _⟩ := h2.shape
  obtain ⟨a3, cap3, rfl, _⟩ := h3.shape
  have hm0 := h0.1
  have hm1 := h1.1
  have hm2 := h2.1
  have hm3 := h3.1
  unfold maxLen at hm0 hm1 hm2 hm3 hq1 hq2
  have hK0 : Keeps w (w.alloc (.cells #[.string q1, .string q2] 27)) := (Keeps.refl w).alloc _
  replace h0 := h0.keep hK0
  replace h1 := h1.keep hK0
  replace h2 := h2.keep hK0
  replace h3 := h3.keep hK0
  go_enter Try.func5, Try.ntmps5
  go_wp2
  any_goals (go_ret; exact ⟨BoolSays.no, hK0⟩)
  go_loop [12, 13, 14] (fun _ t i => ∃ (k : Nat) (z : Int), k ≤ rs.length ∧ i = .int .i64 k ∧ t = .int .i64 z ∧ 0 ≤ z ∧ z ≤ 1048576) (fun _ _ i => rs.length - (intOf i).toNat)
  case atStart => exact ⟨0, _, Nat.zero_le _, rfl, rfl, by omega, by omega⟩
  case round =>
    obtain ⟨k, z, hk, rfl, rfl, hz0, hz1⟩ := hrel
    by_cases hlt : k < rs.length
    · obtain ⟨b0, off0, x0, x1, rfl, d0, d1, ⟨rfl, s0⟩, ⟨rfl, s1⟩⟩ := h0.at hlt
      unfold maxLen at s0 s1
      go_wp2
      any_goals (go_ret; exact ⟨BoolSays.no, hK0⟩)
      go_round
      case rel => exact ⟨k + 1, _, by omega, by go_num, rfl, by omega, by omega⟩
      case measure => simp [intOf]; omega
    · skip
      go_wp2
      any_goals (go_ret; exact ⟨BoolSays.no, hK0⟩)
      go_loop [12, 13, 15] (fun _ t i => ∃ (k : Nat) (z : Int), k ≤ dss.length ∧ i = .int .i64 k ∧ t = .int .i64 z ∧ 0 ≤ z ∧ z ≤ 1048576 ∧ ∀ i (_ : i < k) (hi : i < dss.length), dss[i].length ≤ 1048576) (fun _ _ i => dss.length - (intOf i).toNat)
      case atStart => exact ⟨0, _, Nat.zero_le _, rfl, rfl, by omega, by omega, fun j hj => by omega⟩
      case round =>
        clear hz0 hz1
        obtain ⟨k, z, hk, rfl, rfl, hz0, hz1, hA⟩ := hrel
        have HA := hide hA
        clear hA
        by_cases hlt : k < dss.length
        · obtain ⟨b1, off1, u, rfl, c1, hu⟩ := h1.at hlt
          obtain ⟨au, capu, rfl, _⟩ := hu.shape
          have hul := hu.1
          unfold maxLen at hul
          go_wp2
          any_goals (go_ret; exact ⟨BoolSays.no, hK0⟩)
          go_round
          case rel => exact ⟨k + 1, _, by omega, by go_num, rfl, by omega, by omega, fun j hj hj' => by
            by_cases e : j = k
            · subst e; omega
            · exact unhide HA j (by omega) hj'⟩
          case measure => simp [intOf]; omega
        · have HA' : Hid (∀ i (hi : i < dss.length), dss[i].length ≤ 1048576) := fun i hi => unhide HA i (by omega) hi
          clear HA
          go_wp2
          any_goals (go_ret; exact ⟨BoolSays.no, hK0⟩)
          go_loop [12, 13, 16, 17] (fun _ t i _ => ∃ (k : Nat) (z : Int), k ≤ ls.length ∧ i = .int .i64 k ∧ t = .int .i64 z ∧ 0 ≤ z ∧ z ≤ 1048576 ∧ ∀ i (_ : i < k) (hi : i < ls.length), ls[i].length ≤ 1048576) (fun _ _ i _ => ls.length - (intOf i).toNat)
          case atStart => exact ⟨0, _, Nat.zero_le _, rfl, rfl, by omega, by omega, fun j hj => by omega⟩
          case round =>
            clear hz0 hz1
            obtain ⟨k, z, hk, rfl, rfl, hz0, hz1, hA⟩ := hrel
            have HB := hide hA
            clear hA
            by_cases hlt : k < ls.length
            · obtain ⟨b2, off2, u, rfl, c2, hu⟩ := h2.at hlt
              obtain ⟨au, capu, rfl, _⟩ := hu.shape
              have hul := hu.1
              unfold maxLen at hul
              go_wp2
              any_goals (go_ret; exact ⟨BoolSays.no, hK0⟩)
              go_loop [12, 13, 17] (fun _ t i => ∃ (m : Nat) (z : Int), m ≤ ls[k].length ∧ i = .int .i64 m ∧ t = .int .i64 z ∧ 0 ≤ z ∧ z ≤ 1048576) (fun _ _ i => ls[k].length - (intOf i).toNat)
              case atStart => exact ⟨0, _, Nat.zero_le _, rfl, rfl, by omega, by omega⟩
              case round =>
                clear hz0 hz1
                obtain ⟨m, z, hm, rfl, rfl, hz0, hz1⟩ := hrel
                by_cases hlt2 : m < ls[k].length
                · obtain ⟨b4, off4, y0, y1, rfl, e0, e1, ⟨rfl, _⟩, ⟨rfl, s1⟩⟩ := hu.at hlt2
                  unfold maxLen at s1
                  go_wp2
                  any_goals (go_ret; exact ⟨BoolSays.no, hK0⟩)
                  go_round
                  case rel => exact ⟨m + 1, _, by omega, by go_num, rfl, by omega, by omega⟩
                  case measure => simp [intOf]; omega
                · go_wp2
                  go_round
                  case rel => exact ⟨k + 1, _, by omega, by go_num, rfl, by omega, by omega, fun j hj hj' => by
                    by_cases e : j = k
                    · subst e; omega
                    · exact unhide HB j (by omega) hj'⟩
                  case measure => simp [intOf]; omega
            · have HB' : Hid (∀ i (hi : i < ls.length), ls[i].length ≤ 1048576) := fun i hi => unhide HB i (by omega) hi
              clear HB
              go_wp2
              any_goals (go_ret; exact ⟨BoolSays.no, hK0⟩)
              go_loop [12, 13, 18, 19] (fun _ t i _ => ∃ (k : Nat) (z : Int), k ≤ ps.length ∧ i = .int .i64 k ∧ t = .int .i64 z ∧ 0 ≤ z ∧ z ≤ 1048576 ∧ ∀ i (_ : i < k) (hi : i < ps.length), ps[i].length ≤ 1048576 ∧ ∀ j (hj : j < ps[i].length), ps[i][j].length ≤ 1048576) (fun _ _ i _ => ps.length - (intOf i).toNat)
              case atStart => exact ⟨0, _, Nat.zero_le _, rfl, rfl, by omega, by omega, fun j hj => by omega⟩
              case round =>
                clear hz0 hz1
                obtain ⟨k, z, hk, rfl, rfl, hz0, hz1, hA⟩ := hrel
                have HC := hide hA
                clear hA
                by_cases hlt : k < ps.length
                · obtain ⟨b3, off3, u, rfl, c3, hu⟩ := h3.at hlt
                  obtain ⟨au, capu, rfl, _⟩ := hu.shape
                  have hul := hu.1
                  unfold maxLen at hul
                  go_wp2
                  any_goals (go_ret; exact ⟨BoolSays.no, hK0⟩)
                  go_loop [12, 13, 19] (fun _ t i => ∃ (m : Nat) (z : Int), m ≤ ps[k].length ∧ i = .int .i64 m ∧ t = .int .i64 z ∧ 0 ≤ z ∧ z ≤ 1048576 ∧ ∀ j (_ : j < m) (hj : j < ps[k].length), ps[k][j].length ≤ 1048576) (fun _ _ i => ps[k].length - (intOf i).toNat)
                  case atStart => exact ⟨0, _, Nat.zero_le _, rfl, rfl, by omega, by omega, fun j hj => by omega⟩
                  case round =>
                    clear hz0 hz1
                    obtain ⟨m, z, hm, rfl, rfl, hz0, hz1, hA⟩ := hrel
                    have HD := hide hA
                    clear hA
                    by_cases hlt2 : m < ps[k].length
                    · obtain ⟨b4, off4, y, rfl, e0, hy⟩ := hu.at hlt2
                      obtain ⟨ay, capy, rfl, _⟩ := hy.shape
                      have hyl := hy.1
                      unfold maxLen at hyl
                      go_wp2
                      any_goals (go_ret; exact ⟨BoolSays.no, hK0⟩)
                      go_round
                      case rel => exact ⟨m + 1, _, by omega, by go_num, rfl, by omega, by omega, fun j hj hj' => by
                        by_cases e : j = m
                        · subst e; omega
                        · exact unhide HD j (by omega) hj'⟩
                      case measure => simp [intOf]; omega
                    · go_wp2
                      go_round
                      case rel => exact ⟨k + 1, _, by omega, by go_num, rfl, by omega, by omega, fun j hj hj' => by
                        by_cases e : j = k
                        · subst e; exact ⟨by omega, fun l hl => unhide HD l (by omega) hl⟩
                        · exact unhide HC j (by omega) hj'⟩
                      case measure => simp [intOf]; omega
                · have HC' : Hid (∀ i (hi : i < ps.length), ps[i].length ≤ 1048576 ∧ ∀ j (hj : j < ps[i].length), ps[i][j].length ≤ 1048576) := fun i hi => unhide HC i (by omega) hi
                  clear HC
                  go_wp2
                  all_goals (go_ret; first | exact ⟨BoolSays.no, hK0⟩ | exact ⟨BoolSays.yes ⟨unhide HA', unhide HB', unhide HC'⟩, hK0⟩)
end Go.Proofs.Qxb6613887a
