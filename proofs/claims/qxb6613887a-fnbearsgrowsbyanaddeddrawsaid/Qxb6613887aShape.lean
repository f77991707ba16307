import Derived.Test.Qxb6613887aFind
namespace Go.Proofs.Qxb6613887a
open Go.RowKit

theorem hide {p : Prop} (h : p) : Hid p := h
theorem unhide {p : Prop} (h : Hid p) : p := h
/-- z is the number of one of n things. -/
def inR (n : Nat) (z : Int) : Prop := 0 ≤ z ∧ z < n
def DrawsOK (rs : List Role) (dss : List (List Int)) : Prop :=
  dss.length = rs.length ∧ (∀ i (hi : i < rs.length) j (hj : j < i), rs[j] ≠ rs[i]) ∧ ∀ i (hi : i < dss.length), ∀ j (hj : j < dss[i].length), inR rs.length dss[i][j]

set_option maxHeartbeats 1000000 in
theorem drawsShape_any (v0 v1 : Value) (rs : List Role) (dss : List (List Int)) (w : World) (h0 : RolesI w v0 rs) (h1 : RowsI w v1 dss) (hn : rs.length ≤ 4096) :
    Calls Try.prog 22 #[v0, v1] w fun e w' => (∃ r : Bool, e = .returned (.bool r) ∧ (r = true → DrawsOK rs dss)) ∧ Keeps w w' := by
  obtain ⟨a0, cap0, rfl, _⟩ := h0.shape
  obtain ⟨a1, cap1, rfl, _⟩ := h1.shape
  have hm1 := h1.1
  unfold maxLen at hm1
  have hg27 := guard27
  have he27 := eql27
  by_cases hlen : dss.length = rs.length
  · have HL : Hid (dss.length = rs.length) := hlen
    have hb : (((dss.length : Nat) : Int) != ((rs.length : Nat) : Int)) = false := by rw [hlen]; simp
    have hl1 : dss.length ≤ rs.length := by omega
    have hl2 : rs.length ≤ dss.length := by omega
    clear hlen
    go_enter Try.func22, Try.ntmps22
    go_wp2
    go_loopw [4, 6] (fun _ i wr => ∃ k : Nat, k ≤ rs.length ∧ i = .int .i64 k ∧ Keeps w wr ∧ (∀ i (hi : i < k) (hi' : i < rs.length) j (hj : j < i), rs[j] ≠ rs[i]) ∧ ∀ i (hi : i < k) (hi' : i < dss.length), ∀ j (hj : j < dss[i].length), inR rs.length dss[i][j]) (fun _ i _ => rs.length - (intOf i).toNat)
    case atStart => exact ⟨0, Nat.zero_le _, rfl, Keeps.refl _, fun j hj => by omega, fun j hj => by omega⟩
    case round =>
      obtain ⟨k, hk, rfl, hK, hA, hB⟩ := hrel
      have HA := hide hA
      have HB := hide hB
      clear hA hB
      by_cases hlt : k < rs.length
      · obtain ⟨b1, off1, u, rfl, c1, hu⟩ := h1.at (i := k) (by omega)
        obtain ⟨b0, off0, x0, x1, rfl, d0, d1, ⟨rfl, _⟩, ⟨rfl, _⟩⟩ := h0.at hlt
        obtain ⟨au, capu, rfl, _⟩ := hu.shape
        have hul := hu.1
        unfold maxLen at hul
        obtain ⟨wo, rfl⟩ : ∃ wo : World, wo = wr := ⟨_, rfl⟩
        go_wp2
        go_loopw [4, 7] (fun _ i wr => ∃ m : Nat, m ≤ k ∧ i = .int .i64 m ∧ Keeps w wr ∧ ∀ j (hj : j < m) (hj' : j < rs.length), rs[j] ≠ rs[k]) (fun _ i _ => k - (intOf i).toNat)
        case atStart => exact ⟨0, Nat.zero_le _, rfl, hK, fun j hj => by omega⟩
        case round =>
          obtain ⟨m, hm, rfl, hK2, hC⟩ := hrel
          have HC := hide hC
          clear hC hK
          by_cases hlt2 : m < k
          · have hlt3 : m < rs.length := by omega
            obtain ⟨b2, off2, y0, y1, he, e0, e1, ⟨rfl, _⟩, ⟨rfl, _⟩⟩ := h0.at hlt3
            cases he
            have d0' := hK2.cell d0
            have d1' := hK2.cell d1
            have e0' := hK2.cell e0
            have e1' := hK2.cell e1
            by_cases hq : rs[m] = rs[k]
            · have hd : roleEq rs[m].1 rs[m].2 rs[k].1 rs[k].2 = true := by simp [roleEq, hq]
              clear hq
              go_wp2
              go_quiet (fail)
              go_wp2
              go_ret
              exact ⟨⟨_, rfl, fun h => by cases h⟩, hK2.drewN _⟩
            · have hd : roleEq rs[m].1 rs[m].2 rs[k].1 rs[k].2 = false := decide_eq_false hq
              have HQ := hide hq
              clear hq
              go_wp2
              go_quiet (fail)
              go_wp2
              go_roundw
              case rel => exact ⟨m + 1, by omega, by go_num, hK2.drewN _, fun j hj hj' => by
                by_cases e : j = m
                · subst e; exact unhide HQ
                · exact unhide HC j (by omega) hj'⟩
              case measure => simp [intOf]; omega
          · have HC' : Hid (∀ j (hj : j < k) (hj' : j < rs.length), rs[j] ≠ rs[k]) := fun j hj hj' => unhide HC j (by omega) hj'
            clear HC
            go_wp2
            go_loopw [4, 8] (fun _ i wr => ∃ m : Nat, m ≤ dss[k].length ∧ i = .int .i64 m ∧ Keeps w wr ∧ ∀ j (hj : j < m) (hj' : j < dss[k].length), inR rs.length dss[k][j]) (fun _ i _ => dss[k].length - (intOf i).toNat)
            case atStart => exact ⟨0, Nat.zero_le _, rfl, hK2, fun j hj => by omega⟩
            case round =>
              obtain ⟨p, hp, rfl, hK3, hD⟩ := hrel
              have HD := hide hD
              clear hD hK2
              have c1' := hK3.cell c1
              by_cases hlt4 : p < dss[k].length
              · obtain ⟨b3, off3, z, rfl, f0, rfl, hz1, hz2⟩ := (RowI.keep hu hK3).at hlt4
                by_cases hr : 0 ≤ dss[k][p] ∧ dss[k][p] < (rs.length : Int)
                · have HR := hide hr
                  have hr' : decide (0 ≤ dss[k][p] ∧ dss[k][p] < (rs.length : Int)) = true := decide_eq_true hr
                  clear hr
                  go_wp2_with (go_at_call 8; refine (inRange_any _ _ _ hz1 hz2).mono ?_; rw [hr']; rintro e w' ⟨rfl, rfl⟩)
                  go_roundw
                  case rel => exact ⟨p + 1, by omega, by go_num, hK3, fun j hj hj' => by
                    by_cases e : j = p
                    · subst e; exact unhide HR
                    · exact unhide HD j (by omega) hj'⟩
                  case measure => simp [intOf]; omega
                · have hr' : decide (0 ≤ dss[k][p] ∧ dss[k][p] < (rs.length : Int)) = false := decide_eq_false hr
                  clear hr
                  go_wp2_with (go_at_call 8; refine (inRange_any _ _ _ hz1 hz2).mono ?_; rw [hr']; rintro e w' ⟨rfl, rfl⟩)
                  go_ret
                  exact ⟨⟨_, rfl, fun h => by cases h⟩, hK3⟩
              · go_wp2
                go_roundw
                case rel => exact ⟨k + 1, by omega, by go_num, hK3, fun i hi hi' j hj => by
                    by_cases e : i = k
                    · subst e; exact unhide HC' j hj (by omega)
                    · exact unhide HA i (by omega) hi' j hj, fun i hi hi' j hj => by
                    by_cases e : i = k
                    · subst e; exact unhide HD j (by omega) hj
                    · exact unhide HB i (by omega) hi' j hj⟩
                case measure => simp [intOf]; omega
      · go_wp2
        go_ret
        exact ⟨⟨_, rfl, fun _ => ⟨unhide HL, fun i hi j hj => unhide HA i (by omega) hi j hj, fun i hi j hj => unhide HB i (by omega) hi j hj⟩⟩, hK⟩
  · have hb : (((dss.length : Nat) : Int) != ((rs.length : Nat) : Int)) = true := by simp; omega
    clear hlen
    go_enter Try.func22, Try.ntmps22
    go_wp2
    go_ret
    exact ⟨⟨_, rfl, fun h => by cases h⟩, Keeps.refl _⟩
end Go.Proofs.Qxb6613887a
