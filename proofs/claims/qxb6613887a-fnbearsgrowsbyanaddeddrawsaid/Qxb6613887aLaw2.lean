import Derived.Test.Qxb6613887aSide
import Derived.Deep.RegionHeld3
namespace Go.Proofs.Qxb6613887a
open Go.RowKit
open Plain (inN Bfs)

theorem take_first {P : Program} {md : Region.Mode} {ops : Array Oper} {Q : Exit → Act → World → Prop} {S : World → Prop} {i : Nat} {oi : Oper} {v : Value} {fuel : Nat} {listed : Array Bool} {a : Act} {w : World} (d : Nat) (hi : ops[i]? = some oi) (hd : oi.dst = some d)
    (hs : Region.noSelect ops = true) (hf : Region.free md ops listed i = true) (hr : (Region.ready md ops listed).contains i = true)
    (hQ : ∀ c a w, Q (.panic c) (a.put oi.dst v) w → Q (.panic c) a w) (hy : YieldsIf P ops S oi v a) (hS : S w)
    (h : wpAnyH P md ops Q S fuel (listed.setIfInBounds i true) ⟨a.tmps.setIfInBounds d v, a.defers⟩ w) : wpAnyH P md ops Q S (fuel + 1) listed a w :=
  wpAnyH_take hi hs hf hr hQ hy hS (by simpa only [Act.put, hd] using h)

theorem hold2 {w w' : World} (h : Keeps w w') {p1 p2 : Addr} {v1 v2 : Value} (h1 : w.cell? p1 = some v1) (h2 : w.cell? p2 = some v2) : w'.cell? p1 = some v1 ∧ w'.cell? p2 = some v2 := ⟨h.cell h1, h.cell h2⟩
/-- 'bears' at whatever world behind wN. -/
theorem bears_at {wN : World} {sd : Nat} {rs : List Role} {cone : List Int} (r : Role) (h : SideIs wN (.pointer (some ⟨sd, 0, none⟩)) rs cone) (h1 : r.1.size ≤ maxLen) (h2 : r.2.size ≤ maxLen) {b : Bool} (hb : bearsB rs cone r = b) :
    ∀ W, Keeps wN W → Calls Try.prog 15 #[.pointer (some ⟨sd, 0, none⟩), .agg #[.string r.1, .string r.2]] W fun e w' => e = .returned (.bool b) ∧ Keeps wN w' := fun W hW =>
  (bears_any r W (h.keep hW) h1 h2).mono fun _ _ ⟨he, hk⟩ => ⟨by rw [he, hb], hW.trans hk⟩

set_option maxRecDepth 100000 in
set_option maxHeartbeats 4000000 in
theorem law2_any (v0 v1 v2 v3 : Value) (rs : List Role) (dss : List (List Int)) (ls : List (List Link)) (ps : List (List (List Int))) (x y z : Int) (q1 q2 : ByteArray) (w : World) (h0 : RolesI w v0 rs) (h1 : RowsI w v1 dss) (h2 : LinksI w v2 ls) (h3 : PartsI w v3 ps)
    (hx : -2147483648 ≤ x ∧ x ≤ 2147483647) (hy : -2147483648 ≤ y ∧ y ≤ 2147483647) (hz : -2147483648 ≤ z ∧ z ≤ 2147483647) (hq1 : q1.size ≤ maxLen) (hq2 : q2.size ≤ maxLen) :
    Calls Try.prog 4 #[v0, v1, v2, v3, .int .i32 x, .int .i32 y, .int .i32 z, .agg #[.string q1, .string q2]] w fun e w' => e = .returned (.bool true) ∧ Keeps w w' := by
  obtain ⟨a0, cap0, rfl, _⟩ := h0.shape
  obtain ⟨a1, cap1, rfl, _⟩ := h1.shape
  obtain ⟨a2, cap2, rfl, _⟩ := h2.shape
  obtain ⟨a3, cap3, rfl, _⟩ := h3.shape
  have hm0 := h0.1
  unfold maxLen at hm0
  obtain ⟨w0, hw0⟩ : ∃ w0 : World, w0 = w.alloc (.cells #[.string q1, .string q2] 27) := ⟨_, rfl⟩
  have hK0 : Keeps w w0 := by rw [hw0]; exact (Keeps.refl w).alloc _
  have x0 : w0.cell? ⟨w.heap.size, 0, none⟩ = some (.string q1) := by rw [hw0]; simp [go_sem]
  have x1 : w0.cell? ⟨w.heap.size, 1, none⟩ = some (.string q2) := by rw [hw0]; simp [go_sem]
  replace h0 := h0.keep hK0
  replace h1 := h1.keep hK0
  replace h2 := h2.keep hK0
  replace h3 := h3.keep hK0
  go_enter Try.func4, Try.ntmps4
  go_wp2_with fail
  rw [← hw0]
  clear hw0
  refine (bytes18_any _ _ _ _ rs dss ls ps x y z q1 q2 w0 h0 h1 h2 h3 hq1 hq2).mono ?_
  rintro e w1 ⟨⟨r, rfl, hby⟩, hk1⟩
  cases r
  · clear hby
    go_wp2_with fail
    go_ret
    exact ⟨rfl, hK0.trans hk1⟩
  have HBY := hide (hby rfl)
  clear hby
  have y0 := hk1.cell x0
  have y1 := hk1.cell x1
  go_wp2_with fail
  refine (graphBytes_any _ _ _ _ rs dss ls ps q1 q2 w1 (h0.keep hk1) (h1.keep hk1) (h2.keep hk1) (h3.keep hk1) hq1 hq2).mono ?_
  rintro e w2 ⟨⟨t, rfl⟩, hk2⟩
  have hK2 := hk1.trans hk2
  clear hk1 hk2 y0 y1
  by_cases ht : 1048576 < t
  · go_wp2_with fail
    go_ret
    exact ⟨rfl, hK0.trans hK2⟩
  by_cases hn : 4096 < rs.length
  · go_wp2_with fail
    go_ret
    exact ⟨rfl, hK0.trans hK2⟩
  go_wp2_with fail
  refine (graphShape_any _ _ _ _ rs dss ls ps w2 (h0.keep hK2) (h1.keep hK2) (h2.keep hK2) (h3.keep hK2) (by omega)).mono ?_
  rintro e w3 ⟨⟨r, rfl, hok⟩, hk3⟩
  have hK3 := hK2.trans hk3
  clear hK2 hk3
  cases r
  · clear hok
    go_wp2_with fail
    go_ret
    exact ⟨rfl, hK0.trans hK3⟩
  have HOK := hide (hok rfl)
  clear hok
  go_wp2_with fail
  refine (inRange_any _ _ _ hx.1 hx.2).mono ?_
  rintro e w' ⟨rfl, rfl⟩
  by_cases hinx : 0 ≤ x ∧ x < (rs.length : Int)
  case neg =>
    have hd : decide (0 ≤ x ∧ x < (rs.length : Int)) = false := decide_eq_false hinx
    rw [hd]
    clear hinx hd
    go_wp2_with fail
    go_ret
    exact ⟨rfl, hK0.trans hK3⟩
  have hdx : decide (0 ≤ x ∧ x < (rs.length : Int)) = true := decide_eq_true hinx
  rw [hdx]
  have HINX := hide hinx
  clear hdx hinx
  go_wp2_with fail
  refine (inRange_any _ _ _ hy.1 hy.2).mono ?_
  rintro e w' ⟨rfl, rfl⟩
  by_cases hiny : 0 ≤ y ∧ y < (rs.length : Int)
  case neg =>
    have hd : decide (0 ≤ y ∧ y < (rs.length : Int)) = false := decide_eq_false hiny
    rw [hd]
    clear hiny hd
    go_wp2_with fail
    go_ret
    exact ⟨rfl, hK0.trans hK3⟩
  have hdy : decide (0 ≤ y ∧ y < (rs.length : Int)) = true := decide_eq_true hiny
  rw [hdy]
  have HINY := hide hiny
  clear hdy hiny
  go_wp2_with fail
  refine (inRange_any _ _ _ hz.1 hz.2).mono ?_
  rintro e w' ⟨rfl, rfl⟩
  by_cases hinz : 0 ≤ z ∧ z < (rs.length : Int)
  case neg =>
    have hd : decide (0 ≤ z ∧ z < (rs.length : Int)) = false := decide_eq_false hinz
    rw [hd]
    clear hinz hd
    go_wp2_with fail
    go_ret
    exact ⟨rfl, hK0.trans hK3⟩
  have hdz : decide (0 ≤ z ∧ z < (rs.length : Int)) = true := decide_eq_true hinz
  rw [hdz]
  clear hdz
  obtain ⟨r, rfl⟩ := Int.eq_ofNat_of_zero_le (unhide HINX).1
  obtain ⟨u, rfl⟩ := Int.eq_ofNat_of_zero_le (unhide HINY).1
  obtain ⟨v, rfl⟩ := Int.eq_ofNat_of_zero_le hinz.1
  have hrN : r < rs.length := by have := (unhide HINX).2; omega
  have huN : u < rs.length := by have := (unhide HINY).2; omega
  have hvN : v < rs.length := by have := hinz.2; omega
  clear hinz HINX HINY hx hy hz
  have hN : rs.length ≤ 4096 := by omega
  have hud : u < dss.length := by rw [(unhide HOK).1.1]; exact huN
  have hnd : rs.Nodup := nodup_of (unhide HOK).1.2.1
  go_wp2_with fail
  refine (links_any _ ls _ (h2.keep hK3) (by have := (unhide HOK).2.1; omega) (unhide HBY).2.1).mono ?_
  rintro e w5 ⟨v5, he5, hl5, hk5⟩
  obtain ⟨al, cl, rfl, _⟩ := hl5.shape
  subst he5
  have hK5 := hK3.trans hk5
  go_wp2_with fail
  refine (newGraph_any _ _ _ _ _ _ _ _ _ _ rs w5 (h0.keep hK5) hN hnd).mono ?_
  rintro e w6 ⟨v6, bi, ro, he6, hG, hI, hk6⟩
  have hK6 := hK5.trans hk6
  obtain ⟨g, rfl⟩ : ∃ g, v6 = .pointer (some ⟨g, 0, none⟩) := by
    obtain ⟨g, hg, _⟩ := hG
    exact ⟨g, hg⟩
  subst he6
  have hG1 : GraphIs w6 (.pointer (some ⟨g, 0, none⟩)) rs dss ls ps := ⟨g, bi, ro, _, _, _, rfl, hG, hI, h1.keep hK6, hl5.keep hk6, h3.keep hK6⟩
  clear hG hI
  go_wp2_with fail
  refine (withDraw_any _ dss u v w6 (h1.keep hK6) hud (by have := (unhide HOK).1.1; omega) (by omega) ((unhide HBY).1 u hud)).mono ?_
  rintro e w7 ⟨v7, he7, hd7, hk7⟩
  have hK7 := hK6.trans hk7
  obtain ⟨ad, cd, rfl, _⟩ := hd7.shape
  simp only [List.length_set] at hd7 he7
  subst he7
  go_wp2_with fail
  refine (newGraph_any _ _ _ _ _ _ _ _ _ _ rs w7 (h0.keep hK7) hN hnd).mono ?_
  rintro e w8 ⟨v8, bi2, ro2, he8, hG, hI, hk8⟩
  have hK8 := hK7.trans hk8
  obtain ⟨g2, rfl⟩ : ∃ g, v8 = .pointer (some ⟨g, 0, none⟩) := by
    obtain ⟨g, hg, _⟩ := hG
    exact ⟨g, hg⟩
  subst he8
  have hG2 : GraphIs w8 (.pointer (some ⟨g2, 0, none⟩)) rs (dss.set u (dss[u] ++ [(v : Int)])) ls ps := ⟨g2, bi2, ro2, _, _, _, rfl, hG, hI, hd7.keep hk8, hl5.keep (hk6.trans (hk7.trans hk8)), h3.keep hK8⟩
  clear hG hI hd7 hl5
  replace hG1 := hG1.keep (hk7.trans hk8)
  have hS : ∀ x, inN rs.length x → ∀ z ∈ succs dss ls ps x.toNat, inN rs.length z := succs_inN (unhide HOK).1.1 (unhide HOK).2.1 (unhide HOK).2.2.1 (unhide HOK).1.2.2 (unhide HOK).2.2.2.1 (unhide HOK).2.2.2.2
  have HSS := hide hS
  clear hS
  go_wp2_with fail
  refine (bearsSide_any _ rs dss ls ps r w8 hG1 (unhide HOK).1.1 (unhide HOK).2.1 (unhide HOK).2.2.1 hrN hN (unhide HOK).1.2.2 (unhide HOK).2.2.2.1 (unhide HOK).2.2.2.2 (bytes_of18 (unhide HBY))).mono ?_
  rintro e w9 ⟨s1, c1, rfl, hs1, b1, hk9⟩
  have hK9 := hK8.trans hk9
  go_wp2_with fail
  refine (bearsSide_any _ rs (dss.set u (dss[u] ++ [(v : Int)])) ls ps r w9 (hG2.keep hk9) (by rw [List.length_set]; exact (unhide HOK).1.1) (unhide HOK).2.1 (unhide HOK).2.2.1 hrN hN (range_set (unhide HOK).1.2.2 hud (by unfold inR; omega)) (unhide HOK).2.2.2.1 (unhide HOK).2.2.2.2 (bytes_set (unhide HBY) hud)).mono ?_
  rintro e wA ⟨s2, c2, rfl, hs2, b2, hkA⟩
  have hKA := hK9.trans hkA
  go_wp2_with fail
  refine (bearsSide_any _ rs dss ls ps v wA (hG1.keep (hk9.trans hkA)) (unhide HOK).1.1 (unhide HOK).2.1 (unhide HOK).2.2.1 hvN hN (unhide HOK).1.2.2 (unhide HOK).2.2.2.1 (unhide HOK).2.2.2.2 (bytes_of18 (unhide HBY))).mono ?_
  rintro e wB ⟨s3, c3, rfl, hs3, b3, hkB⟩
  have hKB := hKA.trans hkB
  have HBG := hide (fun q => bears_grows hnd hud huN hvN hrN (unhide HSS) b1 b2 b3 q)
  have HR2 := hide (bears_root hnd hrN b2)
  have HR3 := hide (bears_root hnd hvN b3)
  replace hs1 := hs1.keep (hkA.trans hkB)
  replace hs2 := hs2.keep hkB
  clear hG1 hG2 b1 b2 b3 HSS HOK HBY hk9 hkA hkB hk5 hk6 hk7 hk8
  obtain ⟨b0, off0, _, _, rfl, dr0, dr1, ⟨rfl, zr1⟩, ⟨rfl, zr2⟩⟩ := h0.at hrN
  obtain ⟨_, _, _, _, hae, du0, du1, ⟨rfl, zu1⟩, ⟨rfl, zu2⟩⟩ := h0.at huN
  cases hae
  obtain ⟨_, _, _, _, hae, dv0, dv1, ⟨rfl, zv1⟩, ⟨rfl, zv2⟩⟩ := h0.at hvN
  cases hae
  have er0 := hKB.cell dr0
  have er1 := hKB.cell dr1
  go_wp2_with fail
  refine (policyRole_any _ _ _).mono ?_
  rintro e wC ⟨rfl, hkC⟩
  have hKC := hKB.trans hkC
  obtain ⟨wD, hwD⟩ : ∃ wD : World, wD = wC.alloc (.cells #[.string rs[r].1, .string rs[r].2] 48) := ⟨_, rfl⟩
  have hkD : Keeps wC wD := by rw [hwD]; exact (Keeps.refl wC).alloc _
  have p0 : wD.cell? ⟨wC.heap.size, 0, none⟩ = some (.string rs[r].1) := by rw [hwD]; simp [go_sem]
  have p1 : wD.cell? ⟨wC.heap.size, 1, none⟩ = some (.string rs[r].2) := by rw [hwD]; simp [go_sem]
  have hKD := hKC.trans hkD
  have eu0 := hKC.cell du0
  have eu1 := hKC.cell du1
  have hb0C : b0 < wC.heap.size := cell_lt eu0
  clear er0 er1
  go_wp2_with fail
  rw [← hwD]
  clear hwD eu0 eu1 hb0C
  refine (policyRole_any _ _ _).mono ?_
  rintro e wE ⟨rfl, hkE⟩
  have hKE := hKD.trans hkE
  obtain ⟨wF, hwF⟩ : ∃ wF : World, wF = wE.alloc (.cells #[.string rs[u].1, .string rs[u].2] 48) := ⟨_, rfl⟩
  have hkF : Keeps wE wF := by rw [hwF]; exact (Keeps.refl wE).alloc _
  have p2 : wF.cell? ⟨wE.heap.size, 0, none⟩ = some (.string rs[u].1) := by rw [hwF]; simp [go_sem]
  have p3 : wF.cell? ⟨wE.heap.size, 1, none⟩ = some (.string rs[u].2) := by rw [hwF]; simp [go_sem]
  have hKF := hKE.trans hkF
  replace p0 := (hkE.trans hkF).cell p0
  replace p1 := (hkE.trans hkF).cell p1
  have ev0 := hKE.cell dv0
  have ev1 := hKE.cell dv1
  have hb0E : b0 < wE.heap.size := cell_lt ev0
  go_wp2_with fail
  rw [← hwF]
  clear hwF ev0 ev1 hb0E
  refine (policyRole_any _ _ _).mono ?_
  rintro e wG ⟨rfl, hkG⟩
  have hKG := hKF.trans hkG
  obtain ⟨wH, hwH⟩ : ∃ wH : World, wH = wG.alloc (.cells #[.string rs[v].1, .string rs[v].2] 48) := ⟨_, rfl⟩
  have hkH : Keeps wG wH := by rw [hwH]; exact (Keeps.refl wG).alloc _
  have p4 : wH.cell? ⟨wG.heap.size, 0, none⟩ = some (.string rs[v].1) := by rw [hwH]; simp [go_sem]
  have p5 : wH.cell? ⟨wG.heap.size, 1, none⟩ = some (.string rs[v].2) := by rw [hwH]; simp [go_sem]
  have hKH := hKG.trans hkH
  replace p0 := hkG.cell p0
  replace p1 := hkG.cell p1
  replace p2 := hkG.cell p2
  replace p3 := hkG.cell p3
  have hbCG : wC.heap.size < wG.heap.size := cell_lt p0
  have hbEG : wE.heap.size < wG.heap.size := cell_lt p2
  have hKBH : Keeps wB wH := (hkC.trans hkD).trans ((hkE.trans hkF).trans (hkG.trans hkH))
  replace hs1 := hs1.keep hKBH
  replace hs2 := hs2.keep hKBH
  replace hs3 := hs3.keep hKBH
  go_wp2_with fail
  rw [← hwH]
  have c15 := bears_any rs[r] wH hs2 zr1 zr2
  rw [unhide HR2] at c15
  refine c15.mono ?_
  clear c15
  rintro e wI ⟨rfl, hkI⟩
  replace p0 := hkH.cell p0
  replace p2 := hkH.cell p2
  replace p3 := hkH.cell p3
  have t4 := hkI.cell p4
  have t5 := hkI.cell p5
  clear hwH p1
  go_wp2_with fail
  have c15 := bears_any rs[v] wI (hs3.keep hkI) zv1 zv2
  rw [unhide HR3] at c15
  refine c15.mono ?_
  clear c15
  rintro e wJ ⟨rfl, hkJ⟩
  have hkIJ := hkI.trans hkJ
  have t2 := hkIJ.cell p2
  have t3 := hkIJ.cell p3
  clear t4 t5
  go_wp2_with fail
  have c15 := bears_any rs[u] wJ (hs1.keep hkIJ) zu1 zu2
  cases hbu : bearsB rs c1 rs[u]
  · rw [hbu] at c15
    refine c15.mono ?_
    clear c15
    rintro e wK ⟨rfl, hkK⟩
    have hkHK := hkIJ.trans hkK
    have t4 := hkHK.cell p4
    have t5 := hkHK.cell p5
    clear t2 t3 p0 p2 p3
    have HG : Hid (∀ q, bearsB rs c2 q = (bearsB rs c1 q || (false && bearsB rs c3 q))) := fun q => by rw [unhide HBG q, hbu]
    clear hbu HBG
    go_wp2_with fail
    have e2v : bearsB rs c2 rs[v] = bearsB rs c1 rs[v] := by rw [unhide HG]; simp
    have c15 := bears_any rs[v] wK (hs2.keep hkHK) zv1 zv2
    rw [e2v] at c15
    clear e2v
    refine c15.mono ?_
    clear c15
    rintro e wK2 ⟨rfl, hkK2⟩
    have t6 := hkK2.cell t4
    have t7 := hkK2.cell t5
    go_wp2_with fail
    have c15 := bears_any rs[v] wK2 (hs1.keep (hkHK.trans hkK2)) zv1 zv2
    refine c15.mono ?_
    clear c15
    rintro e wL ⟨rfl, hkL⟩
    have hkHL := (hkHK.trans hkK2).trans hkL
    clear t4 t5 p4 p5 t6 t7
    go_wp2_with fail
    go_loopg [28] rs.length (fun q i wr => ∃ k : Nat, k + q = rs.length ∧ i = .int .i64 k ∧ Keeps wL wr)
    case atStart => exact ⟨0, Nat.zero_add _, rfl, Keeps.refl _⟩
    case round =>
      obtain ⟨k, hkq, rfl, hKr⟩ := hrel
      have hk : k ≤ rs.length := by omega
      have HJ := hide hkq
      clear hkq
      have hkHr := hkHL.trans hKr
      by_cases hlt : k < rs.length
      · obtain ⟨_, _, _, _, hae, d0, d1, ⟨rfl, z1⟩, ⟨rfl, z2⟩⟩ := (RolesI.keep h0 (hKH.trans hkHr)).at hlt
        cases hae
        go_wp2_with fail
        refine (policyRole_any _ _ _).mono ?_
        rintro e wM ⟨rfl, hkM⟩
        obtain ⟨wN, hwN⟩ : ∃ wN : World, wN = wM.alloc (.cells #[.string rs[k].1, .string rs[k].2] 48) := ⟨_, rfl⟩
        have hkN : Keeps wM wN := by rw [hwN]; exact (Keeps.refl wM).alloc _
        have n0 : wN.cell? ⟨wM.heap.size, 0, none⟩ = some (.string rs[k].1) := by rw [hwN]; simp [go_sem]
        have n1 : wN.cell? ⟨wM.heap.size, 1, none⟩ = some (.string rs[k].2) := by rw [hwN]; simp [go_sem]
        have hkrN := hkM.trans hkN
        have hkHN := hkHr.trans hkrN
        clear d0 d1
        cases hb1 : bearsB rs c1 rs[k]
        · have H1 := hide (bears_at rs[k] (hs1.keep hkHN) z1 z2 hb1)
          have H2 := hide (bears_at (b := false) rs[k] (hs2.keep hkHN) z1 z2 (by rw [unhide HG, hb1]; simp))
          clear hb1
          go_wp2_with fail
          rw [← hwN]
          clear hwN
          refine wp_region_held_drew (S := fun w' => w'.cell? ⟨wM.heap.size, 0, none⟩ = some (.string rs[k].1) ∧ w'.cell? ⟨wM.heap.size, 1, none⟩ = some (.string rs[k].2)) (by kernel_rfl) (hold2 (Keeps.refl _).drew n0 n1) (fun hS0 => ?_)
          refine take_first (i := 0) 159 rfl rfl (by kernel_rfl) (by kernel_rfl) (by kernel_rfl) (fun _ _ _ h => h) (v := ?_) (Or.inl ⟨by rfl, ?_⟩) hS0 ?_
          rotate_left
          · intro w hSw; (try dsimp only at hSw); go_simp; with_reducible rfl
          simp only [List.setIfInBounds_toArray, List.set_cons_zero, List.set_cons_succ]
          refine take_first (i := 1) 160 rfl rfl (by kernel_rfl) (by kernel_rfl) (by kernel_rfl) (fun _ _ _ h => h) (v := ?_) (Or.inl ⟨by rfl, ?_⟩) hS0 ?_
          rotate_left
          · intro w hSw; (try dsimp only at hSw); go_simp; with_reducible rfl
          simp only [List.setIfInBounds_toArray, List.set_cons_zero, List.set_cons_succ]
          refine take_first (i := 3) 162 rfl rfl (by kernel_rfl) (by kernel_rfl) (by kernel_rfl) (fun _ _ _ h => h) (v := ?_) (Or.inl ⟨by rfl, ?_⟩) hS0 ?_
          rotate_left
          · intro w hSw; (try dsimp only at hSw); go_simp; with_reducible rfl
          simp only [List.setIfInBounds_toArray, List.set_cons_zero, List.set_cons_succ]
          refine take_first (i := 4) 163 rfl rfl (by kernel_rfl) (by kernel_rfl) (by kernel_rfl) (fun _ _ _ h => h) (v := ?_) (Or.inl ⟨by rfl, ?_⟩) hS0 ?_
          rotate_left
          · intro w hSw; (try dsimp only at hSw); go_simp; with_reducible rfl
          simp only [List.setIfInBounds_toArray, List.set_cons_zero, List.set_cons_succ]
          refine wpAnyH_ready (rs := [2]) (by kernel_rfl) (by simp) ?_
          refine AllReadyH.cons rfl (fun K hK => ?_) AllReadyH.nil
          go_simp
          refine (unhide H2 _ (Keeps.refl _).drew).mono ?_
          rintro e w' ⟨rfl, hk1⟩
          refine Shut.out hK _ _ (hold2 hk1 n0 n1) (fun hS0 => ?_)
          clear hK K
          refine wpAnyH_ready (rs := [5]) (by kernel_rfl) (by simp) ?_
          refine AllReadyH.cons rfl (fun K hK => ?_) AllReadyH.nil
          go_simp
          refine (unhide H1 _ hk1).mono ?_
          rintro e w' ⟨rfl, hk2⟩
          refine Shut.out hK _ _ (hold2 hk2 n0 n1) (fun hS0 => ?_)
          clear hK K
          refine take_first (i := 6) 165 rfl rfl (by kernel_rfl) (by kernel_rfl) (by kernel_rfl) (fun _ _ _ h => h) (v := ?_) (Or.inl ⟨by rfl, ?_⟩) hS0 ?_
          rotate_left
          · intro w hSw; (try dsimp only at hSw); go_simp; with_reducible rfl
          simp only [List.setIfInBounds_toArray, List.set_cons_zero, List.set_cons_succ]
          refine take_first (i := 7) 166 rfl rfl (by kernel_rfl) (by kernel_rfl) (by kernel_rfl) (fun _ _ _ h => h) (v := ?_) (Or.inl ⟨by rfl, ?_⟩) hS0 ?_
          rotate_left
          · intro w hSw; (try dsimp only at hSw); go_simp; with_reducible rfl
          simp only [List.setIfInBounds_toArray, List.set_cons_zero, List.set_cons_succ]
          refine take_first (i := 8) 167 rfl rfl (by kernel_rfl) (by kernel_rfl) (by kernel_rfl) (fun _ _ _ h => h) (v := ?_) (Or.inl ⟨by rfl, ?_⟩) hS0 ?_
          rotate_left
          · intro w hSw; (try dsimp only at hSw); go_simp; with_reducible rfl
          simp only [List.setIfInBounds_toArray, List.set_cons_zero, List.set_cons_succ]
          refine take_first (i := 9) 168 rfl rfl (by kernel_rfl) (by kernel_rfl) (by kernel_rfl) (fun _ _ _ h => h) (v := undef) (Or.inr ⟨by rfl, rfl⟩) hS0 ?_
          simp only [List.setIfInBounds_toArray, List.set_cons_zero, List.set_cons_succ]
          refine take_first (i := 10) 169 rfl rfl (by kernel_rfl) (by kernel_rfl) (by kernel_rfl) (fun _ _ _ h => h) (v := undef) (Or.inr ⟨by rfl, rfl⟩) hS0 ?_
          simp only [List.setIfInBounds_toArray, List.set_cons_zero, List.set_cons_succ]
          refine take_first (i := 11) 170 rfl rfl (by kernel_rfl) (by kernel_rfl) (by kernel_rfl) (fun _ _ _ h => h) (v := undef) (Or.inr ⟨by rfl, rfl⟩) hS0 ?_
          simp only [List.setIfInBounds_toArray, List.set_cons_zero, List.set_cons_succ]
          refine take_first (i := 12) 171 rfl rfl (by kernel_rfl) (by kernel_rfl) (by kernel_rfl) (fun _ _ _ h => h) (v := ?_) (Or.inl ⟨by rfl, ?_⟩) hS0 ?_
          rotate_left
          · intro w hSw; (try dsimp only at hSw); go_simp; with_reducible rfl
          simp only [List.setIfInBounds_toArray, List.set_cons_zero, List.set_cons_succ]
          refine take_first (i := 13) 172 rfl rfl (by kernel_rfl) (by kernel_rfl) (by kernel_rfl) (fun _ _ _ h => h) (v := ?_) (Or.inl ⟨by rfl, ?_⟩) hS0 ?_
          rotate_left
          · intro w hSw; (try dsimp only at hSw); go_simp; with_reducible rfl
          simp only [List.setIfInBounds_toArray, List.set_cons_zero, List.set_cons_succ]
          refine take_first (i := 14) 173 rfl rfl (by kernel_rfl) (by kernel_rfl) (by kernel_rfl) (fun _ _ _ h => h) (v := ?_) (Or.inl ⟨by rfl, ?_⟩) hS0 ?_
          rotate_left
          · intro w hSw; (try dsimp only at hSw); go_simp; with_reducible rfl
          simp only [List.setIfInBounds_toArray, List.set_cons_zero, List.set_cons_succ]
          refine wpAnyH_done (by kernel_rfl) ?_ _
          go_wp2
          go_roundg (rs.length - (k + 1))
          case rel => exact ⟨k + 1, by omega, by go_num, hKr.trans (hkrN.trans hk2)⟩
          case measure => have := unhide HJ; omega
        · have H1 := hide (bears_at rs[k] (hs1.keep hkHN) z1 z2 hb1)
          have H2 := hide (bears_at (b := true) rs[k] (hs2.keep hkHN) z1 z2 (by rw [unhide HG, hb1]; simp))
          clear hb1
          go_wp2_with fail
          rw [← hwN]
          clear hwN
          refine wp_region_held_drew (S := fun w' => w'.cell? ⟨wM.heap.size, 0, none⟩ = some (.string rs[k].1) ∧ w'.cell? ⟨wM.heap.size, 1, none⟩ = some (.string rs[k].2)) (by kernel_rfl) (hold2 (Keeps.refl _).drew n0 n1) (fun hS0 => ?_)
          refine take_first (i := 0) 159 rfl rfl (by kernel_rfl) (by kernel_rfl) (by kernel_rfl) (fun _ _ _ h => h) (v := ?_) (Or.inl ⟨by rfl, ?_⟩) hS0 ?_
          rotate_left
          · intro w hSw; (try dsimp only at hSw); go_simp; with_reducible rfl
          simp only [List.setIfInBounds_toArray, List.set_cons_zero, List.set_cons_succ]
          refine take_first (i := 1) 160 rfl rfl (by kernel_rfl) (by kernel_rfl) (by kernel_rfl) (fun _ _ _ h => h) (v := ?_) (Or.inl ⟨by rfl, ?_⟩) hS0 ?_
          rotate_left
          · intro w hSw; (try dsimp only at hSw); go_simp; with_reducible rfl
          simp only [List.setIfInBounds_toArray, List.set_cons_zero, List.set_cons_succ]
          refine take_first (i := 3) 162 rfl rfl (by kernel_rfl) (by kernel_rfl) (by kernel_rfl) (fun _ _ _ h => h) (v := ?_) (Or.inl ⟨by rfl, ?_⟩) hS0 ?_
          rotate_left
          · intro w hSw; (try dsimp only at hSw); go_simp; with_reducible rfl
          simp only [List.setIfInBounds_toArray, List.set_cons_zero, List.set_cons_succ]
          refine take_first (i := 4) 163 rfl rfl (by kernel_rfl) (by kernel_rfl) (by kernel_rfl) (fun _ _ _ h => h) (v := ?_) (Or.inl ⟨by rfl, ?_⟩) hS0 ?_
          rotate_left
          · intro w hSw; (try dsimp only at hSw); go_simp; with_reducible rfl
          simp only [List.setIfInBounds_toArray, List.set_cons_zero, List.set_cons_succ]
          refine wpAnyH_ready (rs := [2]) (by kernel_rfl) (by simp) ?_
          refine AllReadyH.cons rfl (fun K hK => ?_) AllReadyH.nil
          go_simp
          refine (unhide H2 _ (Keeps.refl _).drew).mono ?_
          rintro e w' ⟨rfl, hk1⟩
          refine Shut.out hK _ _ (hold2 hk1 n0 n1) (fun hS0 => ?_)
          clear hK K
          refine wpAnyH_ready (rs := [5]) (by kernel_rfl) (by simp) ?_
          refine AllReadyH.cons rfl (fun K hK => ?_) AllReadyH.nil
          go_simp
          refine (unhide H1 _ hk1).mono ?_
          rintro e w' ⟨rfl, hk2⟩
          refine Shut.out hK _ _ (hold2 hk2 n0 n1) (fun hS0 => ?_)
          clear hK K
          refine take_first (i := 6) 165 rfl rfl (by kernel_rfl) (by kernel_rfl) (by kernel_rfl) (fun _ _ _ h => h) (v := ?_) (Or.inl ⟨by rfl, ?_⟩) hS0 ?_
          rotate_left
          · intro w hSw; (try dsimp only at hSw); go_simp; with_reducible rfl
          simp only [List.setIfInBounds_toArray, List.set_cons_zero, List.set_cons_succ]
          refine take_first (i := 7) 166 rfl rfl (by kernel_rfl) (by kernel_rfl) (by kernel_rfl) (fun _ _ _ h => h) (v := undef) (Or.inr ⟨by rfl, rfl⟩) hS0 ?_
          simp only [List.setIfInBounds_toArray, List.set_cons_zero, List.set_cons_succ]
          refine take_first (i := 8) 167 rfl rfl (by kernel_rfl) (by kernel_rfl) (by kernel_rfl) (fun _ _ _ h => h) (v := undef) (Or.inr ⟨by rfl, rfl⟩) hS0 ?_
          simp only [List.setIfInBounds_toArray, List.set_cons_zero, List.set_cons_succ]
          refine take_first (i := 9) 168 rfl rfl (by kernel_rfl) (by kernel_rfl) (by kernel_rfl) (fun _ _ _ h => h) (v := undef) (Or.inr ⟨by rfl, rfl⟩) hS0 ?_
          simp only [List.setIfInBounds_toArray, List.set_cons_zero, List.set_cons_succ]
          refine take_first (i := 10) 169 rfl rfl (by kernel_rfl) (by kernel_rfl) (by kernel_rfl) (fun _ _ _ h => h) (v := undef) (Or.inr ⟨by rfl, rfl⟩) hS0 ?_
          simp only [List.setIfInBounds_toArray, List.set_cons_zero, List.set_cons_succ]
          refine take_first (i := 11) 170 rfl rfl (by kernel_rfl) (by kernel_rfl) (by kernel_rfl) (fun _ _ _ h => h) (v := undef) (Or.inr ⟨by rfl, rfl⟩) hS0 ?_
          simp only [List.setIfInBounds_toArray, List.set_cons_zero, List.set_cons_succ]
          refine take_first (i := 12) 171 rfl rfl (by kernel_rfl) (by kernel_rfl) (by kernel_rfl) (fun _ _ _ h => h) (v := undef) (Or.inr ⟨by rfl, rfl⟩) hS0 ?_
          simp only [List.setIfInBounds_toArray, List.set_cons_zero, List.set_cons_succ]
          refine take_first (i := 13) 172 rfl rfl (by kernel_rfl) (by kernel_rfl) (by kernel_rfl) (fun _ _ _ h => h) (v := ?_) (Or.inl ⟨by rfl, ?_⟩) hS0 ?_
          rotate_left
          · intro w hSw; (try dsimp only at hSw); go_simp; with_reducible rfl
          simp only [List.setIfInBounds_toArray, List.set_cons_zero, List.set_cons_succ]
          refine take_first (i := 14) 173 rfl rfl (by kernel_rfl) (by kernel_rfl) (by kernel_rfl) (fun _ _ _ h => h) (v := ?_) (Or.inl ⟨by rfl, ?_⟩) hS0 ?_
          rotate_left
          · intro w hSw; (try dsimp only at hSw); go_simp; with_reducible rfl
          simp only [List.setIfInBounds_toArray, List.set_cons_zero, List.set_cons_succ]
          refine wpAnyH_done (by kernel_rfl) ?_ _
          go_wp2
          go_roundg (rs.length - (k + 1))
          case rel => exact ⟨k + 1, by omega, by go_num, hKr.trans (hkrN.trans hk2)⟩
          case measure => have := unhide HJ; omega
      · have hKx := hKH.trans hkHr
        have y0 := hKx.cell x0
        have y1 := hKx.cell x1
        have z1 := hq1
        have z2 := hq2
        go_wp2_with fail
        refine (policyRole_any _ _ _).mono ?_
        rintro e wM ⟨rfl, hkM⟩
        obtain ⟨wN, hwN⟩ : ∃ wN : World, wN = wM.alloc (.cells #[.string q1, .string q2] 48) := ⟨_, rfl⟩
        have hkN : Keeps wM wN := by rw [hwN]; exact (Keeps.refl wM).alloc _
        have n0 : wN.cell? ⟨wM.heap.size, 0, none⟩ = some (.string q1) := by rw [hwN]; simp [go_sem]
        have n1 : wN.cell? ⟨wM.heap.size, 1, none⟩ = some (.string q2) := by rw [hwN]; simp [go_sem]
        have hkrN := hkM.trans hkN
        have hkHN := hkHr.trans hkrN
        clear y0 y1
        cases hb1 : bearsB rs c1 (q1, q2)
        · have H1 := hide (bears_at (q1, q2) (hs1.keep hkHN) z1 z2 hb1)
          have H2 := hide (bears_at (b := false) (q1, q2) (hs2.keep hkHN) z1 z2 (by rw [unhide HG, hb1]; simp))
          clear hb1
          go_wp2_with fail
          rw [← hwN]
          clear hwN
          refine wp_region_held_drew (S := fun w' => w'.cell? ⟨wM.heap.size, 0, none⟩ = some (.string q1) ∧ w'.cell? ⟨wM.heap.size, 1, none⟩ = some (.string q2)) (by kernel_rfl) (hold2 (Keeps.refl _).drew n0 n1) (fun hS0 => ?_)
          refine take_first (i := 0) 176 rfl rfl (by kernel_rfl) (by kernel_rfl) (by kernel_rfl) (fun _ _ _ h => h) (v := ?_) (Or.inl ⟨by rfl, ?_⟩) hS0 ?_
          rotate_left
          · intro w hSw; (try dsimp only at hSw); go_simp; with_reducible rfl
          simp only [List.setIfInBounds_toArray, List.set_cons_zero, List.set_cons_succ]
          refine take_first (i := 1) 177 rfl rfl (by kernel_rfl) (by kernel_rfl) (by kernel_rfl) (fun _ _ _ h => h) (v := ?_) (Or.inl ⟨by rfl, ?_⟩) hS0 ?_
          rotate_left
          · intro w hSw; (try dsimp only at hSw); go_simp; with_reducible rfl
          simp only [List.setIfInBounds_toArray, List.set_cons_zero, List.set_cons_succ]
          refine take_first (i := 3) 179 rfl rfl (by kernel_rfl) (by kernel_rfl) (by kernel_rfl) (fun _ _ _ h => h) (v := ?_) (Or.inl ⟨by rfl, ?_⟩) hS0 ?_
          rotate_left
          · intro w hSw; (try dsimp only at hSw); go_simp; with_reducible rfl
          simp only [List.setIfInBounds_toArray, List.set_cons_zero, List.set_cons_succ]
          refine take_first (i := 4) 180 rfl rfl (by kernel_rfl) (by kernel_rfl) (by kernel_rfl) (fun _ _ _ h => h) (v := ?_) (Or.inl ⟨by rfl, ?_⟩) hS0 ?_
          rotate_left
          · intro w hSw; (try dsimp only at hSw); go_simp; with_reducible rfl
          simp only [List.setIfInBounds_toArray, List.set_cons_zero, List.set_cons_succ]
          refine wpAnyH_ready (rs := [2]) (by kernel_rfl) (by simp) ?_
          refine AllReadyH.cons rfl (fun K hK => ?_) AllReadyH.nil
          go_simp
          refine (unhide H2 _ (Keeps.refl _).drew).mono ?_
          rintro e w' ⟨rfl, hk1⟩
          refine Shut.out hK _ _ (hold2 hk1 n0 n1) (fun hS0 => ?_)
          clear hK K
          refine wpAnyH_ready (rs := [5]) (by kernel_rfl) (by simp) ?_
          refine AllReadyH.cons rfl (fun K hK => ?_) AllReadyH.nil
          go_simp
          refine (unhide H1 _ hk1).mono ?_
          rintro e w' ⟨rfl, hk2⟩
          refine Shut.out hK _ _ (hold2 hk2 n0 n1) (fun hS0 => ?_)
          clear hK K
          refine take_first (i := 6) 182 rfl rfl (by kernel_rfl) (by kernel_rfl) (by kernel_rfl) (fun _ _ _ h => h) (v := ?_) (Or.inl ⟨by rfl, ?_⟩) hS0 ?_
          rotate_left
          · intro w hSw; (try dsimp only at hSw); go_simp; with_reducible rfl
          simp only [List.setIfInBounds_toArray, List.set_cons_zero, List.set_cons_succ]
          refine take_first (i := 7) 183 rfl rfl (by kernel_rfl) (by kernel_rfl) (by kernel_rfl) (fun _ _ _ h => h) (v := ?_) (Or.inl ⟨by rfl, ?_⟩) hS0 ?_
          rotate_left
          · intro w hSw; (try dsimp only at hSw); go_simp; with_reducible rfl
          simp only [List.setIfInBounds_toArray, List.set_cons_zero, List.set_cons_succ]
          refine take_first (i := 8) 184 rfl rfl (by kernel_rfl) (by kernel_rfl) (by kernel_rfl) (fun _ _ _ h => h) (v := ?_) (Or.inl ⟨by rfl, ?_⟩) hS0 ?_
          rotate_left
          · intro w hSw; (try dsimp only at hSw); go_simp; with_reducible rfl
          simp only [List.setIfInBounds_toArray, List.set_cons_zero, List.set_cons_succ]
          refine take_first (i := 9) 185 rfl rfl (by kernel_rfl) (by kernel_rfl) (by kernel_rfl) (fun _ _ _ h => h) (v := undef) (Or.inr ⟨by rfl, rfl⟩) hS0 ?_
          simp only [List.setIfInBounds_toArray, List.set_cons_zero, List.set_cons_succ]
          refine take_first (i := 10) 186 rfl rfl (by kernel_rfl) (by kernel_rfl) (by kernel_rfl) (fun _ _ _ h => h) (v := undef) (Or.inr ⟨by rfl, rfl⟩) hS0 ?_
          simp only [List.setIfInBounds_toArray, List.set_cons_zero, List.set_cons_succ]
          refine take_first (i := 11) 187 rfl rfl (by kernel_rfl) (by kernel_rfl) (by kernel_rfl) (fun _ _ _ h => h) (v := undef) (Or.inr ⟨by rfl, rfl⟩) hS0 ?_
          simp only [List.setIfInBounds_toArray, List.set_cons_zero, List.set_cons_succ]
          refine take_first (i := 12) 188 rfl rfl (by kernel_rfl) (by kernel_rfl) (by kernel_rfl) (fun _ _ _ h => h) (v := ?_) (Or.inl ⟨by rfl, ?_⟩) hS0 ?_
          rotate_left
          · intro w hSw; (try dsimp only at hSw); go_simp; with_reducible rfl
          simp only [List.setIfInBounds_toArray, List.set_cons_zero, List.set_cons_succ]
          refine take_first (i := 13) 189 rfl rfl (by kernel_rfl) (by kernel_rfl) (by kernel_rfl) (fun _ _ _ h => h) (v := ?_) (Or.inl ⟨by rfl, ?_⟩) hS0 ?_
          rotate_left
          · intro w hSw; (try dsimp only at hSw); go_simp; with_reducible rfl
          simp only [List.setIfInBounds_toArray, List.set_cons_zero, List.set_cons_succ]
          refine take_first (i := 14) 190 rfl rfl (by kernel_rfl) (by kernel_rfl) (by kernel_rfl) (fun _ _ _ h => h) (v := ?_) (Or.inl ⟨by rfl, ?_⟩) hS0 ?_
          rotate_left
          · intro w hSw; (try dsimp only at hSw); go_simp; with_reducible rfl
          simp only [List.setIfInBounds_toArray, List.set_cons_zero, List.set_cons_succ]
          refine take_first (i := 15) 16 rfl rfl (by kernel_rfl) (by kernel_rfl) (by kernel_rfl) (fun _ _ _ h => h) (v := ?_) (Or.inl ⟨by rfl, ?_⟩) hS0 ?_
          rotate_left
          · intro w hSw; (try dsimp only at hSw); go_simp; with_reducible rfl
          simp only [List.setIfInBounds_toArray, List.set_cons_zero, List.set_cons_succ]
          refine wpAnyH_done (by kernel_rfl) ?_ _
          go_wp2
          go_ret
          exact ⟨by simp, (hK0.trans hKx).trans (hkrN.trans hk2)⟩
        · have H1 := hide (bears_at (q1, q2) (hs1.keep hkHN) z1 z2 hb1)
          have H2 := hide (bears_at (b := true) (q1, q2) (hs2.keep hkHN) z1 z2 (by rw [unhide HG, hb1]; simp))
          clear hb1
          go_wp2_with fail
          rw [← hwN]
          clear hwN
          refine wp_region_held_drew (S := fun w' => w'.cell? ⟨wM.heap.size, 0, none⟩ = some (.string q1) ∧ w'.cell? ⟨wM.heap.size, 1, none⟩ = some (.string q2)) (by kernel_rfl) (hold2 (Keeps.refl _).drew n0 n1) (fun hS0 => ?_)
          refine take_first (i := 0) 176 rfl rfl (by kernel_rfl) (by kernel_rfl) (by kernel_rfl) (fun _ _ _ h => h) (v := ?_) (Or.inl ⟨by rfl, ?_⟩) hS0 ?_
          rotate_left
          · intro w hSw; (try dsimp only at hSw); go_simp; with_reducible rfl
          simp only [List.setIfInBounds_toArray, List.set_cons_zero, List.set_cons_succ]
          refine take_first (i := 1) 177 rfl rfl (by kernel_rfl) (by kernel_rfl) (by kernel_rfl) (fun _ _ _ h => h) (v := ?_) (Or.inl ⟨by rfl, ?_⟩) hS0 ?_
          rotate_left
          · intro w hSw; (try dsimp only at hSw); go_simp; with_reducible rfl
          simp only [List.setIfInBounds_toArray, List.set_cons_zero, List.set_cons_succ]
          refine take_first (i := 3) 179 rfl rfl (by kernel_rfl) (by kernel_rfl) (by kernel_rfl) (fun _ _ _ h => h) (v := ?_) (Or.inl ⟨by rfl, ?_⟩) hS0 ?_
          rotate_left
          · intro w hSw; (try dsimp only at hSw); go_simp; with_reducible rfl
          simp only [List.setIfInBounds_toArray, List.set_cons_zero, List.set_cons_succ]
          refine take_first (i := 4) 180 rfl rfl (by kernel_rfl) (by kernel_rfl) (by kernel_rfl) (fun _ _ _ h => h) (v := ?_) (Or.inl ⟨by rfl, ?_⟩) hS0 ?_
          rotate_left
          · intro w hSw; (try dsimp only at hSw); go_simp; with_reducible rfl
          simp only [List.setIfInBounds_toArray, List.set_cons_zero, List.set_cons_succ]
          refine wpAnyH_ready (rs := [2]) (by kernel_rfl) (by simp) ?_
          refine AllReadyH.cons rfl (fun K hK => ?_) AllReadyH.nil
          go_simp
          refine (unhide H2 _ (Keeps.refl _).drew).mono ?_
          rintro e w' ⟨rfl, hk1⟩
          refine Shut.out hK _ _ (hold2 hk1 n0 n1) (fun hS0 => ?_)
          clear hK K
          refine wpAnyH_ready (rs := [5]) (by kernel_rfl) (by simp) ?_
          refine AllReadyH.cons rfl (fun K hK => ?_) AllReadyH.nil
          go_simp
          refine (unhide H1 _ hk1).mono ?_
          rintro e w' ⟨rfl, hk2⟩
          refine Shut.out hK _ _ (hold2 hk2 n0 n1) (fun hS0 => ?_)
          clear hK K
          refine take_first (i := 6) 182 rfl rfl (by kernel_rfl) (by kernel_rfl) (by kernel_rfl) (fun _ _ _ h => h) (v := ?_) (Or.inl ⟨by rfl, ?_⟩) hS0 ?_
          rotate_left
          · intro w hSw; (try dsimp only at hSw); go_simp; with_reducible rfl
          simp only [List.setIfInBounds_toArray, List.set_cons_zero, List.set_cons_succ]
          refine take_first (i := 7) 183 rfl rfl (by kernel_rfl) (by kernel_rfl) (by kernel_rfl) (fun _ _ _ h => h) (v := undef) (Or.inr ⟨by rfl, rfl⟩) hS0 ?_
          simp only [List.setIfInBounds_toArray, List.set_cons_zero, List.set_cons_succ]
          refine take_first (i := 8) 184 rfl rfl (by kernel_rfl) (by kernel_rfl) (by kernel_rfl) (fun _ _ _ h => h) (v := undef) (Or.inr ⟨by rfl, rfl⟩) hS0 ?_
          simp only [List.setIfInBounds_toArray, List.set_cons_zero, List.set_cons_succ]
          refine take_first (i := 9) 185 rfl rfl (by kernel_rfl) (by kernel_rfl) (by kernel_rfl) (fun _ _ _ h => h) (v := undef) (Or.inr ⟨by rfl, rfl⟩) hS0 ?_
          simp only [List.setIfInBounds_toArray, List.set_cons_zero, List.set_cons_succ]
          refine take_first (i := 10) 186 rfl rfl (by kernel_rfl) (by kernel_rfl) (by kernel_rfl) (fun _ _ _ h => h) (v := undef) (Or.inr ⟨by rfl, rfl⟩) hS0 ?_
          simp only [List.setIfInBounds_toArray, List.set_cons_zero, List.set_cons_succ]
          refine take_first (i := 11) 187 rfl rfl (by kernel_rfl) (by kernel_rfl) (by kernel_rfl) (fun _ _ _ h => h) (v := undef) (Or.inr ⟨by rfl, rfl⟩) hS0 ?_
          simp only [List.setIfInBounds_toArray, List.set_cons_zero, List.set_cons_succ]
          refine take_first (i := 12) 188 rfl rfl (by kernel_rfl) (by kernel_rfl) (by kernel_rfl) (fun _ _ _ h => h) (v := undef) (Or.inr ⟨by rfl, rfl⟩) hS0 ?_
          simp only [List.setIfInBounds_toArray, List.set_cons_zero, List.set_cons_succ]
          refine take_first (i := 13) 189 rfl rfl (by kernel_rfl) (by kernel_rfl) (by kernel_rfl) (fun _ _ _ h => h) (v := ?_) (Or.inl ⟨by rfl, ?_⟩) hS0 ?_
          rotate_left
          · intro w hSw; (try dsimp only at hSw); go_simp; with_reducible rfl
          simp only [List.setIfInBounds_toArray, List.set_cons_zero, List.set_cons_succ]
          refine take_first (i := 14) 190 rfl rfl (by kernel_rfl) (by kernel_rfl) (by kernel_rfl) (fun _ _ _ h => h) (v := ?_) (Or.inl ⟨by rfl, ?_⟩) hS0 ?_
          rotate_left
          · intro w hSw; (try dsimp only at hSw); go_simp; with_reducible rfl
          simp only [List.setIfInBounds_toArray, List.set_cons_zero, List.set_cons_succ]
          refine take_first (i := 15) 16 rfl rfl (by kernel_rfl) (by kernel_rfl) (by kernel_rfl) (fun _ _ _ h => h) (v := ?_) (Or.inl ⟨by rfl, ?_⟩) hS0 ?_
          rotate_left
          · intro w hSw; (try dsimp only at hSw); go_simp; with_reducible rfl
          simp only [List.setIfInBounds_toArray, List.set_cons_zero, List.set_cons_succ]
          refine wpAnyH_done (by kernel_rfl) ?_ _
          go_wp2
          go_ret
          exact ⟨by simp, (hK0.trans hKx).trans (hkrN.trans hk2)⟩
  · rw [hbu] at c15
    refine c15.mono ?_
    clear c15
    rintro e wK ⟨rfl, hkK⟩
    have hkHK := hkIJ.trans hkK
    have t4 := hkHK.cell p4
    have t5 := hkHK.cell p5
    clear t2 t3 p0 p2 p3
    have HG : Hid (∀ q, bearsB rs c2 q = (bearsB rs c1 q || (true && bearsB rs c3 q))) := fun q => by rw [unhide HBG q, hbu]
    clear hbu HBG
    go_wp2_with fail
    have e2v : bearsB rs c2 rs[v] = true := by rw [unhide HG, unhide HR3]; simp
    have c15 := bears_any rs[v] wK (hs2.keep hkHK) zv1 zv2
    rw [e2v] at c15
    clear e2v
    refine c15.mono ?_
    clear c15
    rintro e wL ⟨rfl, hkL⟩
    have hkHL := hkHK.trans hkL
    clear t4 t5 p4 p5
    go_wp2_with fail
    go_loopg [28] rs.length (fun q i wr => ∃ k : Nat, k + q = rs.length ∧ i = .int .i64 k ∧ Keeps wL wr)
    case atStart => exact ⟨0, Nat.zero_add _, rfl, Keeps.refl _⟩
    case round =>
      obtain ⟨k, hkq, rfl, hKr⟩ := hrel
      have hk : k ≤ rs.length := by omega
      have HJ := hide hkq
      clear hkq
      have hkHr := hkHL.trans hKr
      by_cases hlt : k < rs.length
      · obtain ⟨_, _, _, _, hae, d0, d1, ⟨rfl, z1⟩, ⟨rfl, z2⟩⟩ := (RolesI.keep h0 (hKH.trans hkHr)).at hlt
        cases hae
        go_wp2_with fail
        refine (policyRole_any _ _ _).mono ?_
        rintro e wM ⟨rfl, hkM⟩
        obtain ⟨wN, hwN⟩ : ∃ wN : World, wN = wM.alloc (.cells #[.string rs[k].1, .string rs[k].2] 48) := ⟨_, rfl⟩
        have hkN : Keeps wM wN := by rw [hwN]; exact (Keeps.refl wM).alloc _
        have n0 : wN.cell? ⟨wM.heap.size, 0, none⟩ = some (.string rs[k].1) := by rw [hwN]; simp [go_sem]
        have n1 : wN.cell? ⟨wM.heap.size, 1, none⟩ = some (.string rs[k].2) := by rw [hwN]; simp [go_sem]
        have hkrN := hkM.trans hkN
        have hkHN := hkHr.trans hkrN
        clear d0 d1
        cases hb1 : bearsB rs c1 rs[k]
        · have H1 := hide (bears_at rs[k] (hs1.keep hkHN) z1 z2 hb1)
          have H2 := hide (bears_at (b := bearsB rs c3 rs[k]) rs[k] (hs2.keep hkHN) z1 z2 (by rw [unhide HG, hb1]; simp))
          have H3 := hide (bears_at rs[k] (hs3.keep hkHN) z1 z2 rfl)
          clear hb1
          go_wp2_with fail
          rw [← hwN]
          clear hwN
          refine wp_region_held_drew (S := fun w' => w'.cell? ⟨wM.heap.size, 0, none⟩ = some (.string rs[k].1) ∧ w'.cell? ⟨wM.heap.size, 1, none⟩ = some (.string rs[k].2)) (by kernel_rfl) (hold2 (Keeps.refl _).drew n0 n1) (fun hS0 => ?_)
          refine take_first (i := 0) 159 rfl rfl (by kernel_rfl) (by kernel_rfl) (by kernel_rfl) (fun _ _ _ h => h) (v := ?_) (Or.inl ⟨by rfl, ?_⟩) hS0 ?_
          rotate_left
          · intro w hSw; (try dsimp only at hSw); go_simp; with_reducible rfl
          simp only [List.setIfInBounds_toArray, List.set_cons_zero, List.set_cons_succ]
          refine take_first (i := 1) 160 rfl rfl (by kernel_rfl) (by kernel_rfl) (by kernel_rfl) (fun _ _ _ h => h) (v := ?_) (Or.inl ⟨by rfl, ?_⟩) hS0 ?_
          rotate_left
          · intro w hSw; (try dsimp only at hSw); go_simp; with_reducible rfl
          simp only [List.setIfInBounds_toArray, List.set_cons_zero, List.set_cons_succ]
          refine take_first (i := 3) 162 rfl rfl (by kernel_rfl) (by kernel_rfl) (by kernel_rfl) (fun _ _ _ h => h) (v := ?_) (Or.inl ⟨by rfl, ?_⟩) hS0 ?_
          rotate_left
          · intro w hSw; (try dsimp only at hSw); go_simp; with_reducible rfl
          simp only [List.setIfInBounds_toArray, List.set_cons_zero, List.set_cons_succ]
          refine take_first (i := 4) 163 rfl rfl (by kernel_rfl) (by kernel_rfl) (by kernel_rfl) (fun _ _ _ h => h) (v := ?_) (Or.inl ⟨by rfl, ?_⟩) hS0 ?_
          rotate_left
          · intro w hSw; (try dsimp only at hSw); go_simp; with_reducible rfl
          simp only [List.setIfInBounds_toArray, List.set_cons_zero, List.set_cons_succ]
          refine wpAnyH_ready (rs := [2]) (by kernel_rfl) (by simp) ?_
          refine AllReadyH.cons rfl (fun K hK => ?_) AllReadyH.nil
          go_simp
          refine (unhide H2 _ (Keeps.refl _).drew).mono ?_
          rintro e w' ⟨rfl, hk1⟩
          refine Shut.out hK _ _ (hold2 hk1 n0 n1) (fun hS0 => ?_)
          clear hK K
          refine wpAnyH_ready (rs := [5]) (by kernel_rfl) (by simp) ?_
          refine AllReadyH.cons rfl (fun K hK => ?_) AllReadyH.nil
          go_simp
          refine (unhide H1 _ hk1).mono ?_
          rintro e w' ⟨rfl, hk2⟩
          refine Shut.out hK _ _ (hold2 hk2 n0 n1) (fun hS0 => ?_)
          clear hK K
          refine take_first (i := 6) 165 rfl rfl (by kernel_rfl) (by kernel_rfl) (by kernel_rfl) (fun _ _ _ h => h) (v := ?_) (Or.inl ⟨by rfl, ?_⟩) hS0 ?_
          rotate_left
          · intro w hSw; (try dsimp only at hSw); go_simp; with_reducible rfl
          simp only [List.setIfInBounds_toArray, List.set_cons_zero, List.set_cons_succ]
          refine take_first (i := 7) 166 rfl rfl (by kernel_rfl) (by kernel_rfl) (by kernel_rfl) (fun _ _ _ h => h) (v := ?_) (Or.inl ⟨by rfl, ?_⟩) hS0 ?_
          rotate_left
          · intro w hSw; (try dsimp only at hSw); go_simp; with_reducible rfl
          simp only [List.setIfInBounds_toArray, List.set_cons_zero, List.set_cons_succ]
          refine take_first (i := 8) 167 rfl rfl (by kernel_rfl) (by kernel_rfl) (by kernel_rfl) (fun _ _ _ h => h) (v := ?_) (Or.inl ⟨by rfl, ?_⟩) hS0 ?_
          rotate_left
          · intro w hSw; (try dsimp only at hSw); go_simp; with_reducible rfl
          simp only [List.setIfInBounds_toArray, List.set_cons_zero, List.set_cons_succ]
          refine take_first (i := 9) 168 rfl rfl (by kernel_rfl) (by kernel_rfl) (by kernel_rfl) (fun _ _ _ h => h) (v := ?_) (Or.inl ⟨by rfl, ?_⟩) hS0 ?_
          rotate_left
          · intro w hSw; (try dsimp only at hSw); go_simp; with_reducible rfl
          simp only [List.setIfInBounds_toArray, List.set_cons_zero, List.set_cons_succ]
          refine take_first (i := 10) 169 rfl rfl (by kernel_rfl) (by kernel_rfl) (by kernel_rfl) (fun _ _ _ h => h) (v := ?_) (Or.inl ⟨by rfl, ?_⟩) hS0 ?_
          rotate_left
          · intro w hSw; (try dsimp only at hSw); go_simp; with_reducible rfl
          simp only [List.setIfInBounds_toArray, List.set_cons_zero, List.set_cons_succ]
          refine wpAnyH_ready (rs := [11]) (by kernel_rfl) (by simp) ?_
          refine AllReadyH.cons rfl (fun K hK => ?_) AllReadyH.nil
          go_simp
          refine (unhide H3 _ hk2).mono ?_
          rintro e w' ⟨rfl, hk3⟩
          refine Shut.out hK _ _ (hold2 hk3 n0 n1) (fun hS0 => ?_)
          clear hK K
          refine take_first (i := 12) 171 rfl rfl (by kernel_rfl) (by kernel_rfl) (by kernel_rfl) (fun _ _ _ h => h) (v := ?_) (Or.inl ⟨by rfl, ?_⟩) hS0 ?_
          rotate_left
          · intro w hSw; (try dsimp only at hSw); go_simp; with_reducible rfl
          simp only [List.setIfInBounds_toArray, List.set_cons_zero, List.set_cons_succ]
          refine take_first (i := 13) 172 rfl rfl (by kernel_rfl) (by kernel_rfl) (by kernel_rfl) (fun _ _ _ h => h) (v := ?_) (Or.inl ⟨by rfl, ?_⟩) hS0 ?_
          rotate_left
          · intro w hSw; (try dsimp only at hSw); go_simp; with_reducible rfl
          simp only [List.setIfInBounds_toArray, List.set_cons_zero, List.set_cons_succ]
          refine take_first (i := 14) 173 rfl rfl (by kernel_rfl) (by kernel_rfl) (by kernel_rfl) (fun _ _ _ h => h) (v := ?_) (Or.inl ⟨by rfl, ?_⟩) hS0 ?_
          rotate_left
          · intro w hSw; (try dsimp only at hSw); go_simp; with_reducible rfl
          simp only [List.setIfInBounds_toArray, List.set_cons_zero, List.set_cons_succ]
          refine wpAnyH_done (by kernel_rfl) ?_ _
          go_wp2
          go_roundg (rs.length - (k + 1))
          case rel => exact ⟨k + 1, by omega, by go_num, hKr.trans (hkrN.trans hk3)⟩
          case measure => have := unhide HJ; omega
        · have H1 := hide (bears_at rs[k] (hs1.keep hkHN) z1 z2 hb1)
          have H2 := hide (bears_at (b := true) rs[k] (hs2.keep hkHN) z1 z2 (by rw [unhide HG, hb1]; simp))
          clear hb1
          go_wp2_with fail
          rw [← hwN]
          clear hwN
          refine wp_region_held_drew (S := fun w' => w'.cell? ⟨wM.heap.size, 0, none⟩ = some (.string rs[k].1) ∧ w'.cell? ⟨wM.heap.size, 1, none⟩ = some (.string rs[k].2)) (by kernel_rfl) (hold2 (Keeps.refl _).drew n0 n1) (fun hS0 => ?_)
          refine take_first (i := 0) 159 rfl rfl (by kernel_rfl) (by kernel_rfl) (by kernel_rfl) (fun _ _ _ h => h) (v := ?_) (Or.inl ⟨by rfl, ?_⟩) hS0 ?_
          rotate_left
          · intro w hSw; (try dsimp only at hSw); go_simp; with_reducible rfl
          simp only [List.setIfInBounds_toArray, List.set_cons_zero, List.set_cons_succ]
          refine take_first (i := 1) 160 rfl rfl (by kernel_rfl) (by kernel_rfl) (by kernel_rfl) (fun _ _ _ h => h) (v := ?_) (Or.inl ⟨by rfl, ?_⟩) hS0 ?_
          rotate_left
          · intro w hSw; (try dsimp only at hSw); go_simp; with_reducible rfl
          simp only [List.setIfInBounds_toArray, List.set_cons_zero, List.set_cons_succ]
          refine take_first (i := 3) 162 rfl rfl (by kernel_rfl) (by kernel_rfl) (by kernel_rfl) (fun _ _ _ h => h) (v := ?_) (Or.inl ⟨by rfl, ?_⟩) hS0 ?_
          rotate_left
          · intro w hSw; (try dsimp only at hSw); go_simp; with_reducible rfl
          simp only [List.setIfInBounds_toArray, List.set_cons_zero, List.set_cons_succ]
          refine take_first (i := 4) 163 rfl rfl (by kernel_rfl) (by kernel_rfl) (by kernel_rfl) (fun _ _ _ h => h) (v := ?_) (Or.inl ⟨by rfl, ?_⟩) hS0 ?_
          rotate_left
          · intro w hSw; (try dsimp only at hSw); go_simp; with_reducible rfl
          simp only [List.setIfInBounds_toArray, List.set_cons_zero, List.set_cons_succ]
          refine wpAnyH_ready (rs := [2]) (by kernel_rfl) (by simp) ?_
          refine AllReadyH.cons rfl (fun K hK => ?_) AllReadyH.nil
          go_simp
          refine (unhide H2 _ (Keeps.refl _).drew).mono ?_
          rintro e w' ⟨rfl, hk1⟩
          refine Shut.out hK _ _ (hold2 hk1 n0 n1) (fun hS0 => ?_)
          clear hK K
          refine wpAnyH_ready (rs := [5]) (by kernel_rfl) (by simp) ?_
          refine AllReadyH.cons rfl (fun K hK => ?_) AllReadyH.nil
          go_simp
          refine (unhide H1 _ hk1).mono ?_
          rintro e w' ⟨rfl, hk2⟩
          refine Shut.out hK _ _ (hold2 hk2 n0 n1) (fun hS0 => ?_)
          clear hK K
          refine take_first (i := 6) 165 rfl rfl (by kernel_rfl) (by kernel_rfl) (by kernel_rfl) (fun _ _ _ h => h) (v := ?_) (Or.inl ⟨by rfl, ?_⟩) hS0 ?_
          rotate_left
          · intro w hSw; (try dsimp only at hSw); go_simp; with_reducible rfl
          simp only [List.setIfInBounds_toArray, List.set_cons_zero, List.set_cons_succ]
          refine take_first (i := 7) 166 rfl rfl (by kernel_rfl) (by kernel_rfl) (by kernel_rfl) (fun _ _ _ h => h) (v := undef) (Or.inr ⟨by rfl, rfl⟩) hS0 ?_
          simp only [List.setIfInBounds_toArray, List.set_cons_zero, List.set_cons_succ]
          refine take_first (i := 8) 167 rfl rfl (by kernel_rfl) (by kernel_rfl) (by kernel_rfl) (fun _ _ _ h => h) (v := undef) (Or.inr ⟨by rfl, rfl⟩) hS0 ?_
          simp only [List.setIfInBounds_toArray, List.set_cons_zero, List.set_cons_succ]
          refine take_first (i := 9) 168 rfl rfl (by kernel_rfl) (by kernel_rfl) (by kernel_rfl) (fun _ _ _ h => h) (v := undef) (Or.inr ⟨by rfl, rfl⟩) hS0 ?_
          simp only [List.setIfInBounds_toArray, List.set_cons_zero, List.set_cons_succ]
          refine take_first (i := 10) 169 rfl rfl (by kernel_rfl) (by kernel_rfl) (by kernel_rfl) (fun _ _ _ h => h) (v := undef) (Or.inr ⟨by rfl, rfl⟩) hS0 ?_
          simp only [List.setIfInBounds_toArray, List.set_cons_zero, List.set_cons_succ]
          refine take_first (i := 11) 170 rfl rfl (by kernel_rfl) (by kernel_rfl) (by kernel_rfl) (fun _ _ _ h => h) (v := undef) (Or.inr ⟨by rfl, rfl⟩) hS0 ?_
          simp only [List.setIfInBounds_toArray, List.set_cons_zero, List.set_cons_succ]
          refine take_first (i := 12) 171 rfl rfl (by kernel_rfl) (by kernel_rfl) (by kernel_rfl) (fun _ _ _ h => h) (v := undef) (Or.inr ⟨by rfl, rfl⟩) hS0 ?_
          simp only [List.setIfInBounds_toArray, List.set_cons_zero, List.set_cons_succ]
          refine take_first (i := 13) 172 rfl rfl (by kernel_rfl) (by kernel_rfl) (by kernel_rfl) (fun _ _ _ h => h) (v := ?_) (Or.inl ⟨by rfl, ?_⟩) hS0 ?_
          rotate_left
          · intro w hSw; (try dsimp only at hSw); go_simp; with_reducible rfl
          simp only [List.setIfInBounds_toArray, List.set_cons_zero, List.set_cons_succ]
          refine take_first (i := 14) 173 rfl rfl (by kernel_rfl) (by kernel_rfl) (by kernel_rfl) (fun _ _ _ h => h) (v := ?_) (Or.inl ⟨by rfl, ?_⟩) hS0 ?_
          rotate_left
          · intro w hSw; (try dsimp only at hSw); go_simp; with_reducible rfl
          simp only [List.setIfInBounds_toArray, List.set_cons_zero, List.set_cons_succ]
          refine wpAnyH_done (by kernel_rfl) ?_ _
          go_wp2
          go_roundg (rs.length - (k + 1))
          case rel => exact ⟨k + 1, by omega, by go_num, hKr.trans (hkrN.trans hk2)⟩
          case measure => have := unhide HJ; omega
      · have hKx := hKH.trans hkHr
        have y0 := hKx.cell x0
        have y1 := hKx.cell x1
        have z1 := hq1
        have z2 := hq2
        go_wp2_with fail
        refine (policyRole_any _ _ _).mono ?_
        rintro e wM ⟨rfl, hkM⟩
        obtain ⟨wN, hwN⟩ : ∃ wN : World, wN = wM.alloc (.cells #[.string q1, .string q2] 48) := ⟨_, rfl⟩
        have hkN : Keeps wM wN := by rw [hwN]; exact (Keeps.refl wM).alloc _
        have n0 : wN.cell? ⟨wM.heap.size, 0, none⟩ = some (.string q1) := by rw [hwN]; simp [go_sem]
        have n1 : wN.cell? ⟨wM.heap.size, 1, none⟩ = some (.string q2) := by rw [hwN]; simp [go_sem]
        have hkrN := hkM.trans hkN
        have hkHN := hkHr.trans hkrN
        clear y0 y1
        cases hb1 : bearsB rs c1 (q1, q2)
        · have H1 := hide (bears_at (q1, q2) (hs1.keep hkHN) z1 z2 hb1)
          have H2 := hide (bears_at (b := bearsB rs c3 (q1, q2)) (q1, q2) (hs2.keep hkHN) z1 z2 (by rw [unhide HG, hb1]; simp))
          have H3 := hide (bears_at (q1, q2) (hs3.keep hkHN) z1 z2 rfl)
          clear hb1
          go_wp2_with fail
          rw [← hwN]
          clear hwN
          refine wp_region_held_drew (S := fun w' => w'.cell? ⟨wM.heap.size, 0, none⟩ = some (.string q1) ∧ w'.cell? ⟨wM.heap.size, 1, none⟩ = some (.string q2)) (by kernel_rfl) (hold2 (Keeps.refl _).drew n0 n1) (fun hS0 => ?_)
          refine take_first (i := 0) 176 rfl rfl (by kernel_rfl) (by kernel_rfl) (by kernel_rfl) (fun _ _ _ h => h) (v := ?_) (Or.inl ⟨by rfl, ?_⟩) hS0 ?_
          rotate_left
          · intro w hSw; (try dsimp only at hSw); go_simp; with_reducible rfl
          simp only [List.setIfInBounds_toArray, List.set_cons_zero, List.set_cons_succ]
          refine take_first (i := 1) 177 rfl rfl (by kernel_rfl) (by kernel_rfl) (by kernel_rfl) (fun _ _ _ h => h) (v := ?_) (Or.inl ⟨by rfl, ?_⟩) hS0 ?_
          rotate_left
          · intro w hSw; (try dsimp only at hSw); go_simp; with_reducible rfl
          simp only [List.setIfInBounds_toArray, List.set_cons_zero, List.set_cons_succ]
          refine take_first (i := 3) 179 rfl rfl (by kernel_rfl) (by kernel_rfl) (by kernel_rfl) (fun _ _ _ h => h) (v := ?_) (Or.inl ⟨by rfl, ?_⟩) hS0 ?_
          rotate_left
          · intro w hSw; (try dsimp only at hSw); go_simp; with_reducible rfl
          simp only [List.setIfInBounds_toArray, List.set_cons_zero, List.set_cons_succ]
          refine take_first (i := 4) 180 rfl rfl (by kernel_rfl) (by kernel_rfl) (by kernel_rfl) (fun _ _ _ h => h) (v := ?_) (Or.inl ⟨by rfl, ?_⟩) hS0 ?_
          rotate_left
          · intro w hSw; (try dsimp only at hSw); go_simp; with_reducible rfl
          simp only [List.setIfInBounds_toArray, List.set_cons_zero, List.set_cons_succ]
          refine wpAnyH_ready (rs := [2]) (by kernel_rfl) (by simp) ?_
          refine AllReadyH.cons rfl (fun K hK => ?_) AllReadyH.nil
          go_simp
          refine (unhide H2 _ (Keeps.refl _).drew).mono ?_
          rintro e w' ⟨rfl, hk1⟩
          refine Shut.out hK _ _ (hold2 hk1 n0 n1) (fun hS0 => ?_)
          clear hK K
          refine wpAnyH_ready (rs := [5]) (by kernel_rfl) (by simp) ?_
          refine AllReadyH.cons rfl (fun K hK => ?_) AllReadyH.nil
          go_simp
          refine (unhide H1 _ hk1).mono ?_
          rintro e w' ⟨rfl, hk2⟩
          refine Shut.out hK _ _ (hold2 hk2 n0 n1) (fun hS0 => ?_)
          clear hK K
          refine take_first (i := 6) 182 rfl rfl (by kernel_rfl) (by kernel_rfl) (by kernel_rfl) (fun _ _ _ h => h) (v := ?_) (Or.inl ⟨by rfl, ?_⟩) hS0 ?_
          rotate_left
          · intro w hSw; (try dsimp only at hSw); go_simp; with_reducible rfl
          simp only [List.setIfInBounds_toArray, List.set_cons_zero, List.set_cons_succ]
          refine take_first (i := 7) 183 rfl rfl (by kernel_rfl) (by kernel_rfl) (by kernel_rfl) (fun _ _ _ h => h) (v := ?_) (Or.inl ⟨by rfl, ?_⟩) hS0 ?_
          rotate_left
          · intro w hSw; (try dsimp only at hSw); go_simp; with_reducible rfl
          simp only [List.setIfInBounds_toArray, List.set_cons_zero, List.set_cons_succ]
          refine take_first (i := 8) 184 rfl rfl (by kernel_rfl) (by kernel_rfl) (by kernel_rfl) (fun _ _ _ h => h) (v := ?_) (Or.inl ⟨by rfl, ?_⟩) hS0 ?_
          rotate_left
          · intro w hSw; (try dsimp only at hSw); go_simp; with_reducible rfl
          simp only [List.setIfInBounds_toArray, List.set_cons_zero, List.set_cons_succ]
          refine take_first (i := 9) 185 rfl rfl (by kernel_rfl) (by kernel_rfl) (by kernel_rfl) (fun _ _ _ h => h) (v := ?_) (Or.inl ⟨by rfl, ?_⟩) hS0 ?_
          rotate_left
          · intro w hSw; (try dsimp only at hSw); go_simp; with_reducible rfl
          simp only [List.setIfInBounds_toArray, List.set_cons_zero, List.set_cons_succ]
          refine take_first (i := 10) 186 rfl rfl (by kernel_rfl) (by kernel_rfl) (by kernel_rfl) (fun _ _ _ h => h) (v := ?_) (Or.inl ⟨by rfl, ?_⟩) hS0 ?_
          rotate_left
          · intro w hSw; (try dsimp only at hSw); go_simp; with_reducible rfl
          simp only [List.setIfInBounds_toArray, List.set_cons_zero, List.set_cons_succ]
          refine wpAnyH_ready (rs := [11]) (by kernel_rfl) (by simp) ?_
          refine AllReadyH.cons rfl (fun K hK => ?_) AllReadyH.nil
          go_simp
          refine (unhide H3 _ hk2).mono ?_
          rintro e w' ⟨rfl, hk3⟩
          refine Shut.out hK _ _ (hold2 hk3 n0 n1) (fun hS0 => ?_)
          clear hK K
          refine take_first (i := 12) 188 rfl rfl (by kernel_rfl) (by kernel_rfl) (by kernel_rfl) (fun _ _ _ h => h) (v := ?_) (Or.inl ⟨by rfl, ?_⟩) hS0 ?_
          rotate_left
          · intro w hSw; (try dsimp only at hSw); go_simp; with_reducible rfl
          simp only [List.setIfInBounds_toArray, List.set_cons_zero, List.set_cons_succ]
          refine take_first (i := 13) 189 rfl rfl (by kernel_rfl) (by kernel_rfl) (by kernel_rfl) (fun _ _ _ h => h) (v := ?_) (Or.inl ⟨by rfl, ?_⟩) hS0 ?_
          rotate_left
          · intro w hSw; (try dsimp only at hSw); go_simp; with_reducible rfl
          simp only [List.setIfInBounds_toArray, List.set_cons_zero, List.set_cons_succ]
          refine take_first (i := 14) 190 rfl rfl (by kernel_rfl) (by kernel_rfl) (by kernel_rfl) (fun _ _ _ h => h) (v := ?_) (Or.inl ⟨by rfl, ?_⟩) hS0 ?_
          rotate_left
          · intro w hSw; (try dsimp only at hSw); go_simp; with_reducible rfl
          simp only [List.setIfInBounds_toArray, List.set_cons_zero, List.set_cons_succ]
          refine take_first (i := 15) 16 rfl rfl (by kernel_rfl) (by kernel_rfl) (by kernel_rfl) (fun _ _ _ h => h) (v := ?_) (Or.inl ⟨by rfl, ?_⟩) hS0 ?_
          rotate_left
          · intro w hSw; (try dsimp only at hSw); go_simp; with_reducible rfl
          simp only [List.setIfInBounds_toArray, List.set_cons_zero, List.set_cons_succ]
          refine wpAnyH_done (by kernel_rfl) ?_ _
          go_wp2
          go_ret
          exact ⟨by simp, (hK0.trans hKx).trans (hkrN.trans hk3)⟩
        · have H1 := hide (bears_at (q1, q2) (hs1.keep hkHN) z1 z2 hb1)
          have H2 := hide (bears_at (b := true) (q1, q2) (hs2.keep hkHN) z1 z2 (by rw [unhide HG, hb1]; simp))
          clear hb1
          go_wp2_with fail
          rw [← hwN]
          clear hwN
          refine wp_region_held_drew (S := fun w' => w'.cell? ⟨wM.heap.size, 0, none⟩ = some (.string q1) ∧ w'.cell? ⟨wM.heap.size, 1, none⟩ = some (.string q2)) (by kernel_rfl) (hold2 (Keeps.refl _).drew n0 n1) (fun hS0 => ?_)
          refine take_first (i := 0) 176 rfl rfl (by kernel_rfl) (by kernel_rfl) (by kernel_rfl) (fun _ _ _ h => h) (v := ?_) (Or.inl ⟨by rfl, ?_⟩) hS0 ?_
          rotate_left
          · intro w hSw; (try dsimp only at hSw); go_simp; with_reducible rfl
          simp only [List.setIfInBounds_toArray, List.set_cons_zero, List.set_cons_succ]
          refine take_first (i := 1) 177 rfl rfl (by kernel_rfl) (by kernel_rfl) (by kernel_rfl) (fun _ _ _ h => h) (v := ?_) (Or.inl ⟨by rfl, ?_⟩) hS0 ?_
          rotate_left
          · intro w hSw; (try dsimp only at hSw); go_simp; with_reducible rfl
          simp only [List.setIfInBounds_toArray, List.set_cons_zero, List.set_cons_succ]
          refine take_first (i := 3) 179 rfl rfl (by kernel_rfl) (by kernel_rfl) (by kernel_rfl) (fun _ _ _ h => h) (v := ?_) (Or.inl ⟨by rfl, ?_⟩) hS0 ?_
          rotate_left
          · intro w hSw; (try dsimp only at hSw); go_simp; with_reducible rfl
          simp only [List.setIfInBounds_toArray, List.set_cons_zero, List.set_cons_succ]
          refine take_first (i := 4) 180 rfl rfl (by kernel_rfl) (by kernel_rfl) (by kernel_rfl) (fun _ _ _ h => h) (v := ?_) (Or.inl ⟨by rfl, ?_⟩) hS0 ?_
          rotate_left
          · intro w hSw; (try dsimp only at hSw); go_simp; with_reducible rfl
          simp only [List.setIfInBounds_toArray, List.set_cons_zero, List.set_cons_succ]
          refine wpAnyH_ready (rs := [2]) (by kernel_rfl) (by simp) ?_
          refine AllReadyH.cons rfl (fun K hK => ?_) AllReadyH.nil
          go_simp
          refine (unhide H2 _ (Keeps.refl _).drew).mono ?_
          rintro e w' ⟨rfl, hk1⟩
          refine Shut.out hK _ _ (hold2 hk1 n0 n1) (fun hS0 => ?_)
          clear hK K
          refine wpAnyH_ready (rs := [5]) (by kernel_rfl) (by simp) ?_
          refine AllReadyH.cons rfl (fun K hK => ?_) AllReadyH.nil
          go_simp
          refine (unhide H1 _ hk1).mono ?_
          rintro e w' ⟨rfl, hk2⟩
          refine Shut.out hK _ _ (hold2 hk2 n0 n1) (fun hS0 => ?_)
          clear hK K
          refine take_first (i := 6) 182 rfl rfl (by kernel_rfl) (by kernel_rfl) (by kernel_rfl) (fun _ _ _ h => h) (v := ?_) (Or.inl ⟨by rfl, ?_⟩) hS0 ?_
          rotate_left
          · intro w hSw; (try dsimp only at hSw); go_simp; with_reducible rfl
          simp only [List.setIfInBounds_toArray, List.set_cons_zero, List.set_cons_succ]
          refine take_first (i := 7) 183 rfl rfl (by kernel_rfl) (by kernel_rfl) (by kernel_rfl) (fun _ _ _ h => h) (v := undef) (Or.inr ⟨by rfl, rfl⟩) hS0 ?_
          simp only [List.setIfInBounds_toArray, List.set_cons_zero, List.set_cons_succ]
          refine take_first (i := 8) 184 rfl rfl (by kernel_rfl) (by kernel_rfl) (by kernel_rfl) (fun _ _ _ h => h) (v := undef) (Or.inr ⟨by rfl, rfl⟩) hS0 ?_
          simp only [List.setIfInBounds_toArray, List.set_cons_zero, List.set_cons_succ]
          refine take_first (i := 9) 185 rfl rfl (by kernel_rfl) (by kernel_rfl) (by kernel_rfl) (fun _ _ _ h => h) (v := undef) (Or.inr ⟨by rfl, rfl⟩) hS0 ?_
          simp only [List.setIfInBounds_toArray, List.set_cons_zero, List.set_cons_succ]
          refine take_first (i := 10) 186 rfl rfl (by kernel_rfl) (by kernel_rfl) (by kernel_rfl) (fun _ _ _ h => h) (v := undef) (Or.inr ⟨by rfl, rfl⟩) hS0 ?_
          simp only [List.setIfInBounds_toArray, List.set_cons_zero, List.set_cons_succ]
          refine take_first (i := 11) 187 rfl rfl (by kernel_rfl) (by kernel_rfl) (by kernel_rfl) (fun _ _ _ h => h) (v := undef) (Or.inr ⟨by rfl, rfl⟩) hS0 ?_
          simp only [List.setIfInBounds_toArray, List.set_cons_zero, List.set_cons_succ]
          refine take_first (i := 12) 188 rfl rfl (by kernel_rfl) (by kernel_rfl) (by kernel_rfl) (fun _ _ _ h => h) (v := undef) (Or.inr ⟨by rfl, rfl⟩) hS0 ?_
          simp only [List.setIfInBounds_toArray, List.set_cons_zero, List.set_cons_succ]
          refine take_first (i := 13) 189 rfl rfl (by kernel_rfl) (by kernel_rfl) (by kernel_rfl) (fun _ _ _ h => h) (v := ?_) (Or.inl ⟨by rfl, ?_⟩) hS0 ?_
          rotate_left
          · intro w hSw; (try dsimp only at hSw); go_simp; with_reducible rfl
          simp only [List.setIfInBounds_toArray, List.set_cons_zero, List.set_cons_succ]
          refine take_first (i := 14) 190 rfl rfl (by kernel_rfl) (by kernel_rfl) (by kernel_rfl) (fun _ _ _ h => h) (v := ?_) (Or.inl ⟨by rfl, ?_⟩) hS0 ?_
          rotate_left
          · intro w hSw; (try dsimp only at hSw); go_simp; with_reducible rfl
          simp only [List.setIfInBounds_toArray, List.set_cons_zero, List.set_cons_succ]
          refine take_first (i := 15) 16 rfl rfl (by kernel_rfl) (by kernel_rfl) (by kernel_rfl) (fun _ _ _ h => h) (v := ?_) (Or.inl ⟨by rfl, ?_⟩) hS0 ?_
          rotate_left
          · intro w hSw; (try dsimp only at hSw); go_simp; with_reducible rfl
          simp only [List.setIfInBounds_toArray, List.set_cons_zero, List.set_cons_succ]
          refine wpAnyH_done (by kernel_rfl) ?_ _
          go_wp2
          go_ret
          exact ⟨by simp, (hK0.trans hKx).trans (hkrN.trans hk2)⟩
end Go.Proofs.Qxb6613887a
