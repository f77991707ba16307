import Derived.Test.Qxb6613887aShape
namespace Go.Proofs.Qxb6613887a
open Go.RowKit

def LinksOK (n : Nat) (ls : List (List Link)) : Prop := ∀ i (hi : i < ls.length), ∀ j (hj : j < ls[i].length), inR n ls[i][j].1
def PartsOK (n : Nat) (ps : List (List (List Int))) : Prop := ∀ i (hi : i < ps.length), ∀ j (hj : j < ps[i].length), ∀ k (hk : k < ps[i][j].length), inR n ps[i][j][k]
def GraphOK (rs : List Role) (dss : List (List Int)) (ls : List (List Link)) (ps : List (List (List Int))) : Prop :=
  DrawsOK rs dss ∧ ls.length = rs.length ∧ ps.length = rs.length ∧ LinksOK rs.length ls ∧ PartsOK rs.length ps

set_option maxHeartbeats 2000000 in
theorem graphShape_any (v0 v1 v2 v3 : Value) (rs : List Role) (dss : List (List Int)) (ls : List (List Link)) (ps : List (List (List Int))) (w : World) (h0 : RolesI w v0 rs) (h1 : RowsI w v1 dss) (h2 : LinksI w v2 ls) (h3 : PartsI w v3 ps) (hn : rs.length ≤ 4096) :
    Calls Try.prog 7 #[v0, v1, v2, v3] w fun e w' => (∃ r : Bool, e = .returned (.bool r) ∧ (r = true → GraphOK rs dss ls ps)) ∧ Keeps w w' := by
  have c22 := drawsShape_any v0 v1 rs dss w h0 h1 hn
  obtain ⟨a0, cap0, rfl, _⟩ := h0.shape
  obtain ⟨a1, cap1, rfl, _⟩ := h1.shape
  obtain ⟨a2, cap2, rfl, _⟩ := h2.shape
  obtain ⟨a3, cap3, rfl, _⟩ := h3.shape
  have hm2 := h2.1
  have hm3 := h3.1
  unfold maxLen at hm2 hm3
  have H22 := hide c22
  clear c22
  go_enter Try.func7, Try.ntmps7
  go_wp2_with fail
  refine (unhide H22).mono ?_
  rintro e w1 ⟨⟨r, rfl, hr⟩, hK1⟩
  cases r
  · clear hr
    go_wp2
    go_ret
    exact ⟨⟨_, rfl, fun h => by cases h⟩, hK1⟩
  have HD := hide (hr rfl)
  clear hr H22
  by_cases hlen : ls.length = rs.length ∧ ps.length = rs.length
  · have HL := hide hlen
    have hb : (((ls.length : Nat) : Int) != ((rs.length : Nat) : Int)) = false := by rw [hlen.1]; simp
    have hb' : (((ps.length : Nat) : Int) != ((rs.length : Nat) : Int)) = false := by rw [hlen.2]; simp
    have hl1 : ls.length ≤ rs.length := by omega
    have hl2 : rs.length ≤ ls.length := by omega
    have hl3 : ps.length ≤ rs.length := by omega
    have hl4 : rs.length ≤ ps.length := by omega
    clear hlen
    go_wp2
    go_loopw [8, 10] (fun _ i wr => ∃ k : Nat, k ≤ rs.length ∧ i = .int .i64 k ∧ Keeps w wr ∧ (∀ i (_ : i < k) (hi : i < ls.length), ∀ j (hj : j < ls[i].length), inR rs.length ls[i][j].1) ∧ ∀ i (_ : i < k) (hi : i < ps.length), ∀ j (hj : j < ps[i].length), ∀ l (hl : l < ps[i][j].length), inR rs.length ps[i][j][l]) (fun _ i _ => rs.length - (intOf i).toNat)
    case atStart => exact ⟨0, Nat.zero_le _, rfl, hK1, fun j hj => by omega, fun j hj => by omega⟩
    case round =>
      obtain ⟨k, hk, rfl, hK, hA, hB⟩ := hrel
      have HA := hide hA
      have HB := hide hB
      clear hA hB hK1
      by_cases hlt : k < rs.length
      · obtain ⟨b2, off2, u, rfl, c2, hu⟩ := h2.at (i := k) (by omega)
        obtain ⟨au, capu, rfl, _⟩ := hu.shape
        have hul := hu.1
        obtain ⟨b3, off3, y, rfl, c3, hy⟩ := h3.at (i := k) (by omega)
        obtain ⟨ay, capy, rfl, _⟩ := hy.shape
        have hyl := hy.1
        unfold maxLen at hul hyl
        obtain ⟨wo, rfl⟩ : ∃ wo : World, wo = wr := ⟨_, rfl⟩
        go_wp2
        go_loopw [8, 11] (fun _ i wr => ∃ m : Nat, m ≤ ls[k].length ∧ i = .int .i64 m ∧ Keeps w wr ∧ ∀ j (_ : j < m) (hj : j < ls[k].length), inR rs.length ls[k][j].1) (fun _ i _ => ls[k].length - (intOf i).toNat)
        case atStart => exact ⟨0, Nat.zero_le _, rfl, hK, fun j hj => by omega⟩
        case round =>
          obtain ⟨m, hm, rfl, hK2, hC⟩ := hrel
          have HC := hide hC
          clear hC hK
          have c2' := hK2.cell c2
          by_cases hlt2 : m < ls[k].length
          · obtain ⟨b4, off4, y0, y1, rfl, e0, e1, ⟨rfl, hz1, hz2⟩, ⟨rfl, _⟩⟩ := (LinkRow.keep hu hK2).at hlt2
            by_cases hr : 0 ≤ ls[k][m].1 ∧ ls[k][m].1 < (rs.length : Int)
            · have HR := hide hr
              have hr' : decide (0 ≤ ls[k][m].1 ∧ ls[k][m].1 < (rs.length : Int)) = true := decide_eq_true hr
              clear hr
              go_wp2_with (go_at_call 8; refine (inRange_any _ _ _ hz1 hz2).mono ?_; rw [hr']; rintro e w' ⟨rfl, rfl⟩)
              go_roundw
              case rel => exact ⟨m + 1, by omega, by go_num, hK2, fun j hj hj' => by
                by_cases e : j = m
                · subst e; exact unhide HR
                · exact unhide HC j (by omega) hj'⟩
              case measure => simp [intOf]; omega
            · have hr' : decide (0 ≤ ls[k][m].1 ∧ ls[k][m].1 < (rs.length : Int)) = false := decide_eq_false hr
              clear hr
              go_wp2_with (go_at_call 8; refine (inRange_any _ _ _ hz1 hz2).mono ?_; rw [hr']; rintro e w' ⟨rfl, rfl⟩)
              go_ret
              exact ⟨⟨_, rfl, fun h => by cases h⟩, hK2⟩
          · go_wp2
            go_loopw [8, 12, 13] (fun _ i _ wr => ∃ m : Nat, m ≤ ps[k].length ∧ i = .int .i64 m ∧ Keeps w wr ∧ ∀ j (_ : j < m) (hj : j < ps[k].length), ∀ l (hl : l < ps[k][j].length), inR rs.length ps[k][j][l]) (fun _ i _ _ => ps[k].length - (intOf i).toNat)
            case atStart => exact ⟨0, Nat.zero_le _, rfl, hK2, fun j hj => by omega⟩
            case round =>
              obtain ⟨p, hp, rfl, hK3, hD⟩ := hrel
              have HE := hide hD
              clear hD hK2
              by_cases hlt4 : p < ps[k].length
              · obtain ⟨b5, off5, z, rfl, f0, hz⟩ := hy.at hlt4
                obtain ⟨az, capz, rfl, _⟩ := hz.shape
                have hzl := hz.1
                unfold maxLen at hzl
                have c3' := hK3.cell c3
                have f0' := hK3.cell f0
                obtain ⟨wo2, rfl⟩ : ∃ wo : World, wo = wr := ⟨_, rfl⟩
                go_wp2
                go_loopw [8, 13] (fun _ i wr => ∃ m : Nat, m ≤ ps[k][p].length ∧ i = .int .i64 m ∧ Keeps w wr ∧ ∀ l (_ : l < m) (hl : l < ps[k][p].length), inR rs.length ps[k][p][l]) (fun _ i _ => ps[k][p].length - (intOf i).toNat)
                case atStart => exact ⟨0, Nat.zero_le _, rfl, hK3, fun j hj => by omega⟩
                case round =>
                  obtain ⟨t, ht, rfl, hK4, hF⟩ := hrel
                  have HF := hide hF
                  clear hF hK3 c3' f0'
                  have c3'' := hK4.cell c3
                  have f0'' := hK4.cell f0
                  by_cases hlt5 : t < ps[k][p].length
                  · obtain ⟨b6, off6, x, rfl, g0, rfl, hx1, hx2⟩ := (RowI.keep hz hK4).at hlt5
                    by_cases hr : 0 ≤ ps[k][p][t] ∧ ps[k][p][t] < (rs.length : Int)
                    · have HR := hide hr
                      have hr' : decide (0 ≤ ps[k][p][t] ∧ ps[k][p][t] < (rs.length : Int)) = true := decide_eq_true hr
                      clear hr
                      go_wp2_with (go_at_call 8; refine (inRange_any _ _ _ hx1 hx2).mono ?_; rw [hr']; rintro e w' ⟨rfl, rfl⟩)
                      go_roundw
                      case rel => exact ⟨t + 1, by omega, by go_num, hK4, fun j hj hj' => by
                        by_cases e : j = t
                        · subst e; exact unhide HR
                        · exact unhide HF j (by omega) hj'⟩
                      case measure => simp [intOf]; omega
                    · have hr' : decide (0 ≤ ps[k][p][t] ∧ ps[k][p][t] < (rs.length : Int)) = false := decide_eq_false hr
                      clear hr
                      go_wp2_with (go_at_call 8; refine (inRange_any _ _ _ hx1 hx2).mono ?_; rw [hr']; rintro e w' ⟨rfl, rfl⟩)
                      go_ret
                      exact ⟨⟨_, rfl, fun h => by cases h⟩, hK4⟩
                  · go_wp2
                    go_roundw
                    case rel => exact ⟨p + 1, by omega, by go_num, hK4, fun j hj hj' l hl => by
                      by_cases e : j = p
                      · subst e; exact unhide HF l (by omega) hl
                      · exact unhide HE j (by omega) hj' l hl⟩
                    case measure => simp [intOf]; omega
              · have c3' := hK3.cell c3
                go_wp2
                go_roundw
                case rel => exact ⟨k + 1, by omega, by go_num, hK3, fun i hi hi' j hj => by
                    by_cases e : i = k
                    · subst e; exact unhide HC j (by omega) hj
                    · exact unhide HA i (by omega) hi' j hj, fun i hi hi' j hj l hl => by
                    by_cases e : i = k
                    · subst e; exact unhide HE j (by omega) hj l hl
                    · exact unhide HB i (by omega) hi' j hj l hl⟩
                case measure => simp [intOf]; omega
      · go_wp2
        go_ret
        exact ⟨⟨_, rfl, fun _ => ⟨unhide HD, (unhide HL).1, (unhide HL).2, fun i hi j hj => unhide HA i (by omega) hi j hj, fun i hi j hj l hl => unhide HB i (by omega) hi j hj l hl⟩⟩, hK⟩
  · by_cases hl : ls.length = rs.length
    · have hb : (((ls.length : Nat) : Int) != ((rs.length : Nat) : Int)) = false := by rw [hl]; simp
      have hb' : (((ps.length : Nat) : Int) != ((rs.length : Nat) : Int)) = true := by simp; omega
      clear hlen hl
      go_wp2
      go_ret
      exact ⟨⟨_, rfl, fun h => by cases h⟩, hK1⟩
    · have hb : (((ls.length : Nat) : Int) != ((rs.length : Nat) : Int)) = true := by simp; omega
      clear hlen hl
      go_wp2
      go_ret
      exact ⟨⟨_, rfl, fun h => by cases h⟩, hK1⟩
end Go.Proofs.Qxb6613887a
