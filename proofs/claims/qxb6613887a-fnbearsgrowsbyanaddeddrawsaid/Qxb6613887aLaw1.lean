import Derived.Test.Qxb6613887aSet
import Derived.Test.Qxb6613887aCone2
import Derived.Test.Qxb6613887aBytes2
import Derived.Test.Qxb6613887aReach
namespace Go.Proofs.Qxb6613887a
open Go.RowKit
open Plain (inN Bfs)

set_option maxHeartbeats 400000 in
theorem zzcone_any (g : Nat) (v1 v2 v3 ix ro : Value) (dss : List (List Int)) (ls : List (List Link)) (ps : List (List (List Int))) (N r : Nat) (w : World) (hG : GraphAt w (.pointer (some ⟨g, 0, none⟩)) ix ro v1 v2 v3) (h1 : RowsI w v1 dss) (h2 : LinksI w v2 ls) (h3 : PartsI w v3 ps)
    (l1 : dss.length = N) (l2 : ls.length = N) (l3 : ps.length = N) (hr : r < N) (hN : N ≤ 4096)
    (k1 : ∀ i (hi : i < dss.length), ∀ j (hj : j < dss[i].length), inR N dss[i][j]) (k2 : LinksOK N ls) (k3 : PartsOK N ps) (hby : BytesOK dss ls ps) :
    Calls Try.prog 12 #[.pointer (some ⟨g, 0, none⟩), .int .i32 r] w fun e w' => ∃ a cap cone, e = .returned (.slice a cone.length cap) ∧ RowI w' (.slice a cone.length cap) cone ∧
      Bfs (succs dss ls ps) N r cone cone.length ∧ Keeps w w' := by
  have H := hide (cone_any g v1 v2 v3 ix ro dss ls ps N r w hG h1 h2 h3 l1 l2 l3 hr hN k1 k2 k3 hby)
  clear hG h1 h2 h3 l1 l2 l3 hr hN k1 k2 k3 hby
  go_enter Try.func12, Try.ntmps12
  go_wp2_with fail
  refine (unhide H).mono ?_
  rintro e w' ⟨a, cap, cone, rfl, hrow, hb, hk⟩
  go_wp2
  go_ret
  exact ⟨a, cap, cone, rfl, hrow, hb, hk⟩

theorem bears_is_seen {dss : List (List Int)} {ls : List (List Link)} {ps : List (List (List Int))} {rs : List Role} {cone : List Int} {r : Nat} {s : Nat → Bool} (hd : rs.Nodup) (hB : Bfs (succs dss ls ps) rs.length r cone cone.length)
    (hs : ∀ y : Nat, y < rs.length → (s y = true ↔ Plain.Reach (succs dss ls ps) r y)) {i : Nat} (hi : i < rs.length) : bearsB rs cone rs[i] = s i := by
  have h1 : bearsB rs cone rs[i] = cone.contains (i : Int) := by simp only [bearsB, roleIdx_some hd hi]
  rw [h1]
  have h2 := hs i hi
  have h3 := hB.final (Nat.le_refl _) (y := (i : Int))
  rw [Bool.eq_iff_iff, h2, ← h3]
  simp

theorem nodup_of {rs : List Role} (h : ∀ i (hi : i < rs.length) j (hj : j < i), rs[j] ≠ rs[i]) : rs.Nodup := by
  rw [List.nodup_iff_pairwise_ne, List.pairwise_iff_getElem]
  intro i j hi hj hij
  exact h j hj i hij

/-- How many of the first k are marked. -/
def cnt (s : Nat → Bool) (k : Nat) : Nat := (List.range k).countP s
theorem cnt_le (s : Nat → Bool) (k : Nat) : cnt s k ≤ k := by
  have := List.countP_le_length (p := s) (l := List.range k)
  simpa [cnt] using this
theorem cnt_succ (s : Nat → Bool) (k : Nat) : cnt s (k + 1) = cnt s k + (if s k = true then 1 else 0) := by
  unfold cnt
  rw [List.range_succ, List.countP_append]
  simp [List.countP_cons]

theorem hold3 {w w' : World} (h : Keeps w w') {p1 p2 p3 : Addr} {v1 v2 v3 : Value} (h1 : w.cell? p1 = some v1) (h2 : w.cell? p2 = some v2) (h3 : w.cell? p3 = some v3) : w'.cell? p1 = some v1 ∧ w'.cell? p2 = some v2 ∧ w'.cell? p3 = some v3 :=
  ⟨h.cell h1, h.cell h2, h.cell h3⟩

set_option maxRecDepth 100000 in
set_option maxHeartbeats 2000000 in
theorem law1_any (v0 v1 v2 v3 : Value) (rs : List Role) (dss : List (List Int)) (ls : List (List Link)) (ps : List (List (List Int))) (x : Int) (q1 q2 : ByteArray) (w : World) (h0 : RolesI w v0 rs) (h1 : RowsI w v1 dss) (h2 : LinksI w v2 ls) (h3 : PartsI w v3 ps)
    (hx1 : -2147483648 ≤ x) (hx2 : x ≤ 2147483647) (hq1 : q1.size ≤ maxLen) (hq2 : q2.size ≤ maxLen) :
    Calls Try.prog 3 #[v0, v1, v2, v3, .int .i32 x, .agg #[.string q1, .string q2]] w fun e w' => e = .returned (.bool true) ∧ Keeps w w' := by
  obtain ⟨a0, cap0, rfl, _⟩ := h0.shape
  obtain ⟨a1, cap1, rfl, _⟩ := h1.shape
  obtain ⟨a2, cap2, rfl, _⟩ := h2.shape
  obtain ⟨a3, cap3, rfl, _⟩ := h3.shape
  have hm0 := h0.1
  unfold maxLen at hm0
  obtain ⟨w0, hw0⟩ : ∃ w0 : World, w0 = w.alloc (.cells #[.string q1, .string q2] 27) := ⟨_, rfl⟩
  have hK0 : Keeps w w0 := by rw [hw0]; exact (Keeps.refl w).alloc _
  have x0 : w0.cell? ⟨w.heap.size, 0, none⟩ = some (.string q1) := by rw [hw0]; simp [go_sem]
  have x1 : w0.cell? ⟨w.heap.size, 1, none⟩ = some (.string q2) := by rw [hw0]; simp [go_sem]
  replace h0 := h0.keep hK0
  replace h1 := h1.keep hK0
  replace h2 := h2.keep hK0
  replace h3 := h3.keep hK0
  go_enter Try.func3, Try.ntmps3
  go_wp2_with fail
  rw [← hw0]
  clear hw0
  refine (bytes_any _ _ _ _ rs dss ls ps x q1 q2 w0 h0 h1 h2 h3 hq1 hq2).mono ?_
  rintro e w1 ⟨⟨r, rfl, hby⟩, hk1⟩
  cases r
  · clear hby
    go_wp2_with fail
    go_ret
    exact ⟨rfl, hK0.trans hk1⟩
  have HBY := hide (hby rfl)
  clear hby
  have y0 := hk1.cell x0
  have y1 := hk1.cell x1
  go_wp2_with fail
  refine (graphBytes_any _ _ _ _ rs dss ls ps q1 q2 w1 (h0.keep hk1) (h1.keep hk1) (h2.keep hk1) (h3.keep hk1) hq1 hq2).mono ?_
  rintro e w2 ⟨⟨t, rfl⟩, hk2⟩
  have hK2 := hk1.trans hk2
  clear hk1 hk2 y0 y1
  by_cases ht : 1048576 < t
  · go_wp2_with fail
    go_ret
    exact ⟨rfl, hK0.trans hK2⟩
  by_cases hn : 4096 < rs.length
  · go_wp2_with fail
    go_ret
    exact ⟨rfl, hK0.trans hK2⟩
  go_wp2_with fail
  refine (graphShape_any _ _ _ _ rs dss ls ps w2 (h0.keep hK2) (h1.keep hK2) (h2.keep hK2) (h3.keep hK2) (by omega)).mono ?_
  rintro e w3 ⟨⟨r, rfl, hok⟩, hk3⟩
  have hK3 := hK2.trans hk3
  clear hK2 hk3
  cases r
  · clear hok
    go_wp2_with fail
    go_ret
    exact ⟨rfl, hK0.trans hK3⟩
  have HOK := hide (hok rfl)
  clear hok
  go_wp2_with fail
  refine (inRange_any _ _ _ hx1 hx2).mono ?_
  rintro e w' ⟨rfl, rfl⟩
  by_cases hin : 0 ≤ x ∧ x < (rs.length : Int)
  case neg =>
    have hd : decide (0 ≤ x ∧ x < (rs.length : Int)) = false := decide_eq_false hin
    rw [hd]
    go_wp2_with fail
    go_ret
    exact ⟨rfl, hK0.trans hK3⟩
  have hd : decide (0 ≤ x ∧ x < (rs.length : Int)) = true := decide_eq_true hin
  rw [hd]
  clear hd
  obtain ⟨r, rfl⟩ := Int.eq_ofNat_of_zero_le hin.1
  have hrN : r < rs.length := by omega
  clear hin
  have hN : rs.length ≤ 4096 := by omega
  go_wp2_with fail
  refine (reach_any _ _ _ dss ls ps rs.length r w' (h1.keep hK3) (h2.keep hK3) (h3.keep hK3) (unhide HOK).1.1 (unhide HOK).2.1 (unhide HOK).2.2.1 hrN hN (unhide HOK).1.2.2 (unhide HOK).2.2.2.1 (unhide HOK).2.2.2.2).mono ?_
  rintro e w4 ⟨gs, s, rfl, hrow, hs, hk4⟩
  have hK4 := hK3.trans hk4
  have HS := hide hs
  clear hs hk4 hK3
  go_wp2_with fail
  refine (links_any _ ls w4 (h2.keep hK4) (by have := (unhide HOK).2.1; omega) (unhide HBY).2.1).mono ?_
  rintro e w5 ⟨v5, he5, hl5, hk5⟩
  obtain ⟨al, cl, rfl, _⟩ := hl5.shape
  subst he5
  have hK5 := hK4.trans hk5
  have hnd : rs.Nodup := nodup_of (unhide HOK).1.2.1
  go_wp2_with fail
  refine (newGraph_any _ _ _ _ _ _ _ _ _ _ rs w5 (h0.keep hK5) hN hnd).mono ?_
  rintro e w6 ⟨v6, bi, ro, he6, hG, hI, hk6⟩
  obtain ⟨g, rfl⟩ : ∃ g, v6 = .pointer (some ⟨g, 0, none⟩) := by
    obtain ⟨g, hg, _⟩ := hG
    exact ⟨g, hg⟩
  subst he6
  have hK6 := hK5.trans hk6
  go_wp2_with fail
  refine (zzcone_any g _ _ _ _ _ dss ls ps rs.length r w6 hG (h1.keep hK6) (hl5.keep hk6) (h3.keep hK6) (unhide HOK).1.1 (unhide HOK).2.1 (unhide HOK).2.2.1 hrN hN (unhide HOK).1.2.2 (unhide HOK).2.2.2.1 (unhide HOK).2.2.2.2 (unhide HBY)).mono ?_
  rintro e w7 ⟨ac, cc, cone, rfl, hrow7, hB, hk7⟩
  have hK7 := hK6.trans hk7
  have hpos := hB.pos
  have hcl := hB.length
  have hc0 : cone[0] = (r : Int) := by
    have := hB.head
    rw [List.getElem?_eq_getElem hpos] at this
    exact Option.some.inj this
  obtain ⟨bq, offq, u, rfl, cq, rfl, _⟩ := hrow7.at hpos
  rw [hc0] at cq
  simp only [Nat.add_zero] at cq
  have hcb : ((cone.length : Int) == 0) = false := beq_eq_false_iff_ne.2 (by omega)
  have hcr : (((r : Int)) != ((r : Int))) = false := by simp
  clear hc0
  go_wp2_with fail
  refine (coneSet_any _ cone rs.length w7 hrow7 hN hB.nodup (fun y hy => (hB.sound y hy).1)).mono ?_
  rintro e w8 ⟨bc, rfl, hset, hk8⟩
  have hK8 := hK7.trans hk8
  have hrow8 := hrow.of_block (((hk5.trans hk6).trans (hk7.trans hk8)).block gs hrow.lt)
  have hcnt : cone.length = cnt s rs.length := Plain.count_eq hB.nodup (fun y hy => (hB.sound y hy).1) (fun y hy => by
    obtain ⟨yn, rfl⟩ := Int.eq_ofNat_of_zero_le hy.1
    rw [hB.final (Nat.le_refl _), Int.toNat_natCast]
    exact ((unhide HS) yn (by have := hy.2; omega)).symm)
  have HC := hide hcnt
  clear hcnt hcb hcr cq
  go_wp2_with fail
  go_loop [19, 20] (fun c i => ∃ k : Nat, k ≤ rs.length ∧ i = .int .i64 k ∧ c = .int .i64 (cnt s k : Nat)) (fun _ i => rs.length - (intOf i).toNat)
  case atStart => exact ⟨0, Nat.zero_le _, rfl, rfl⟩
  case round =>
    obtain ⟨k, hk, rfl, rfl⟩ := hrel
    have hck := cnt_le s k
    by_cases hlt : k < rs.length
    · have hcell := hrow8.cell hlt
      have HCS := hide (cnt_succ s k)
      cases hsk : s k
      · rw [hsk] at hcell HCS
        clear hsk
        go_wp2
        go_round
        case rel => exact ⟨k + 1, by omega, by go_num, by rw [unhide HCS]; rfl⟩
        case measure => simp [intOf]; omega
      · rw [hsk] at hcell HCS
        clear hsk
        go_wp2
        go_round
        case rel => exact ⟨k + 1, by omega, by go_num, by rw [unhide HCS]; simp⟩
        case measure => simp [intOf]; omega
    · have hke : k = rs.length := by omega
      subst hke
      have hbn : (((cone.length : Nat) : Int) != ((cnt s rs.length : Nat) : Int)) = false := by rw [← unhide HC]; simp
      go_wp2_with fail
      refine (newSide_any ⟨g, 0, none⟩ bc w8).mono ?_
      rintro e w9 ⟨v9, he9, hk9, hSA⟩
      have hK9 := hK8.trans hk9
      obtain ⟨sd, rfl, sd0, sd2⟩ := hSA
      subst he9
      have hSide : SideIs w9 (.pointer (some ⟨sd, 0, none⟩)) rs cone := by
        obtain ⟨g', hgg, gix, _⟩ := (hG.keep (hk7.trans (hk8.trans hk9)))
        cases hgg
        exact ⟨sd, g, bi, bc, rfl, sd0, sd2, gix, hI.keep (hk7.trans (hk8.trans hk9)), hset.keep hk9, hN⟩
      have hrow9 := hrow8.of_block (hk9.block gs hrow8.lt)
      have HBE := hide (show ∀ i (hi : i < rs.length), bearsB rs cone rs[i] = s i from fun i hi => bears_is_seen hnd hB (unhide HS) hi)
      clear hbn HC hset hI hG hl5 hrow7 hrow8 hrow sd0 sd2 hck hk
      go_wp2_with fail
      go_loopg [22] rs.length (fun q i wr => ∃ k : Nat, k + q = rs.length ∧ i = .int .i64 k ∧ Keeps w9 wr)
      case atStart => exact ⟨0, Nat.zero_add _, rfl, Keeps.refl _⟩
      case round =>
        obtain ⟨k, hkq, rfl, hKr⟩ := hrel
        have hk : k ≤ rs.length := by omega
        have HJ := hide hkq
        clear hkq
        by_cases hlt : k < rs.length
        · obtain ⟨b0, off0, u0, u1, rfl, d0, d1, ⟨rfl, z1⟩, ⟨rfl, z2⟩⟩ := (RolesI.keep h0 (hK9.trans hKr)).at hlt
          have cw := hKr.cell (hrow9.cell hlt)
          have h15 : ∀ W, Keeps wr W → Calls Try.prog 15 #[.pointer (some ⟨sd, 0, none⟩), .agg #[.string rs[k].1, .string rs[k].2]] W fun e w' => e = .returned (.bool (s k)) ∧ Keeps W w' := fun W hW => by
            have := bears_any rs[k] W (hSide.keep (hKr.trans hW)) z1 z2
            rw [unhide HBE k hlt] at this
            exact this
          have H15 := hide h15
          clear h15
          go_wp2_with fail
          go_region_held3 (fun w' => w'.cell? ⟨b0, off0 + k * 2, none⟩ = some (.string rs[k].1) ∧ w'.cell? ⟨b0, off0 + k * 2 + 1, none⟩ = some (.string rs[k].2) ∧ w'.cell? ⟨gs, k, none⟩ = some (.bool (s k))) (first | exact hold3 (Keeps.refl _).drew d0 d1 cw | exact hold3 (((Keeps.refl _).alloc _).alloc _).drew d0 d1 cw | exact hold3 (Keeps.trans (((Keeps.refl _).alloc _).alloc _).drew hk15) d0 d1 cw)
            (first | (go_at_call 16; refine (policyRole_exact _ _ _).mono ?_; rintro e w' ⟨rfl, rfl⟩) | (go_at_call 15; refine (unhide H15 _ (((Keeps.refl _).alloc _).alloc _).drew).mono ?_; rintro e w' ⟨rfl, hk15⟩))
          go_wp2
          go_roundg (rs.length - (k + 1))
          case rel => exact ⟨k + 1, by omega, by go_num, hKr.trans (Keeps.trans (((Keeps.refl _).alloc _).alloc _).drew hk15)⟩
          case measure => have := unhide HJ; omega
        · have hKx := hK9.trans hKr
          have y0 := hKx.cell x0
          have y1 := hKx.cell x1
          have hfr := findRole_any _ rs (q1, q2) wr (RolesI.keep h0 hKx) hN
          have hSr := hSide.keep hKr
          have hwr := hrow9.of_block (hKr.block gs hrow9.lt)
          by_cases hm : (q1, q2) ∈ rs
          · obtain ⟨i, hi, hri⟩ := List.getElem_of_mem hm
            have hidx : roleIdxI rs (q1, q2) = (i : Int) := roleIdxI_some (by rw [← hri]; exact roleIdx_some hnd hi)
            have hbe : bearsB rs cone (q1, q2) = s i := by rw [← hri]; exact unhide HBE i hi
            rw [hidx] at hfr
            have HFR := hide hfr
            clear hfr hidx hri hm
            go_wp2_with fail
            refine (unhide HFR).mono ?_
            rintro e wa ⟨rfl, hka⟩
            have y0 := hka.cell y0
            have y1 := hka.cell y1
            go_wp2_with fail
            refine (policyRole_any _ _ _).mono ?_
            rintro e wb ⟨rfl, hkb⟩
            have hb15 := bears_any (q1, q2) wb (hSr.keep (hka.trans hkb)) hq1 hq2
            rw [hbe] at hb15
            have HB15 := hide hb15
            clear hb15 hbe
            go_wp2_with fail
            refine (unhide HB15).mono ?_
            rintro e wc ⟨rfl, hkc⟩
            have hcw := (hka.trans (hkb.trans hkc)).cell (hwr.cell hi)
            go_wp2_with fail
            go_ret
            exact ⟨by simp, (hK0.trans hKx).trans (hka.trans (hkb.trans hkc))⟩
          · have hidx : roleIdxI rs (q1, q2) = -1 := roleIdxI_none (roleIdx_none hm)
            have hbe : bearsB rs cone (q1, q2) = false := by simp only [bearsB, roleIdx_none hm]
            rw [hidx] at hfr
            have HFR := hide hfr
            clear hfr hidx hm
            go_wp2_with fail
            refine (unhide HFR).mono ?_
            rintro e wa ⟨rfl, hka⟩
            have y0 := hka.cell y0
            have y1 := hka.cell y1
            go_wp2_with fail
            refine (policyRole_any _ _ _).mono ?_
            rintro e wb ⟨rfl, hkb⟩
            have hb15 := bears_any (q1, q2) wb (hSr.keep (hka.trans hkb)) hq1 hq2
            rw [hbe] at hb15
            have HB15 := hide hb15
            clear hb15 hbe
            go_wp2_with fail
            refine (unhide HB15).mono ?_
            rintro e wc ⟨rfl, hkc⟩
            go_wp2_with fail
            go_ret
            exact ⟨rfl, (hK0.trans hKx).trans (hka.trans (hkb.trans hkc))⟩
end Go.Proofs.Qxb6613887a
