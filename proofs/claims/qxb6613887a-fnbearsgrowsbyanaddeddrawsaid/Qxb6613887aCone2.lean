import Derived.Test.Qxb6613887aCone
import Derived.Test.Qxb6613887aBytes
namespace Go.Proofs.Qxb6613887a
open Go.RowKit
open Plain (inN Bfs)

theorem flat_len {K : Nat} {ps : List (List Int)} {p : Nat} (h : ∀ j (hj : j < ps.length), ps[j].length ≤ K) : (ps.take p).flatten.length ≤ p * K := by
  induction p with
  | zero => simp
  | succ p ih =>
    rw [Nat.succ_mul]
    by_cases hp : p < ps.length
    · rw [List.take_succ_eq_append_getElem hp, List.flatten_append, List.length_append]
      have := h p hp
      simp only [List.flatten_cons, List.flatten_nil, List.append_nil]
      omega
    · rw [List.take_of_length_le (Nat.le_of_not_lt hp)] at ih
      rw [List.take_of_length_le (Nat.le_succ_of_le (Nat.le_of_not_lt hp))]
      omega
theorem eql71 (w : World) : (binOp .eql 71 .nilFunc .nilFunc).run Try.prog w = .ok (.bool true) w := by kernel_rfl
theorem insert_first (W : World) {b : Nat} (hb : b = W.heap.size) {r : Int} (hr : -2147483648 ≤ r ∧ r ≤ 2147483647) :
    (Instr.mapUpdate 40 (.map (some b)) (.int .i32 r) (.bool true)).run Try.prog (W.alloc (.map #[] 0)) = .ok () (W.alloc (.map #[⟨.int .i32 r, .bool true, 0⟩] 1)) := by
  subst hb
  have h1 : (W.alloc (.map #[] 0)).heap[W.heap.size]? = some (.map #[] 0) := (MapKept.heap_alloc W _).1
  have hck := i32Keyed.check (W.alloc (.map #[] 0)) false (key_i32 hr)
  have hf : (Instr.findKey 21 (.int .i32 r) []).run Try.prog (W.alloc (.map #[] 0)) = .ok none (W.alloc (.map #[] 0)) := by
    simp [Instr.findKey, run_underlying Try.underlying21, Instr.findNow]
  simp [Instr.mapUpdate, run_underlying Try.underlying40, MapKept.run_getObj_map h1, hck, hf, MapKept.run_setObj_map _ h1, Result.andThen]
  show World.mk _ _ _ _ _ = World.mk _ _ _ _ _
  congr 1
  show (W.heap.push _).setIfInBounds W.heap.size _ = W.heap.push _
  apply Array.ext'
  simp

set_option maxRecDepth 100000 in
set_option maxHeartbeats 4000000 in
theorem cone_any (g : Nat) (v1 v2 v3 ix ro : Value) (dss : List (List Int)) (ls : List (List Link)) (ps : List (List (List Int))) (N r : Nat) (w : World) (hG : GraphAt w (.pointer (some ⟨g, 0, none⟩)) ix ro v1 v2 v3) (h1 : RowsI w v1 dss) (h2 : LinksI w v2 ls) (h3 : PartsI w v3 ps)
    (l1 : dss.length = N) (l2 : ls.length = N) (l3 : ps.length = N) (hr : r < N) (hN : N ≤ 4096)
    (k1 : ∀ i (hi : i < dss.length), ∀ j (hj : j < dss[i].length), inR N dss[i][j]) (k2 : LinksOK N ls) (k3 : PartsOK N ps) (hby : BytesOK dss ls ps) :
    Calls Try.prog 25 #[.pointer (some ⟨g, 0, none⟩), .int .i32 r, .nilFunc] w fun e w' => ∃ a cap cone, e = .returned (.slice a cone.length cap) ∧ RowI w' (.slice a cone.length cap) cone ∧
      Bfs (succs dss ls ps) N r cone cone.length ∧ Keeps w w' := by
  obtain ⟨a1, cap1, rfl, _⟩ := h1.shape
  obtain ⟨a2, cap2, rfl, _⟩ := h2.shape
  obtain ⟨a3, cap3, rfl, _⟩ := h3.shape
  have HL := hide (And.intro l1 (And.intro l2 l3))
  have HK := hide (And.intro k1 (And.intro k2 k3))
  have HB := hide hby
  have hl1' : N ≤ dss.length := by omega
  have hl2' : N ≤ ls.length := by omega
  have hl3' : N ≤ ps.length := by omega
  have hl1 : dss.length ≤ N := by omega
  have hl2 : ls.length ≤ N := by omega
  have hl3 : ps.length ≤ N := by omega
  clear l1 l2 l3 k1 k2 k3 hby
  obtain ⟨g', hgg, _, _, g2, g3, g4⟩ := hG
  cases hgg
  have hmm := @run_makeMap Try.prog
  have hins := insert_first (((w.alloc (.cells #[.pointer (some ⟨g, 0, none⟩)] 34)).alloc (.cells #[.nilFunc] 71)).alloc (.cells #[.int .i32 (r : Int)] 21)) (b := w.heap.size + 3) (by simp) (r := (r : Int)) (by omega)
  go_enter Try.func25, Try.ntmps25
  go_wp2
  obtain ⟨W0, hW0⟩ : ∃ W0 : World, W0 = (w.alloc (.cells #[.pointer (some ⟨g, 0, none⟩)] 34)).alloc (.cells #[.nilFunc] 71) := ⟨_, rfl⟩
  have hkW : Keeps w W0 := by rw [hW0]; exact ((Keeps.refl w).alloc _).alloc _
  have hbx : W0.cell? ⟨w.heap.size, 0, none⟩ = some (.pointer (some ⟨g, 0, none⟩)) := by rw [hW0]; simp [go_sem]
  have hby : W0.cell? ⟨w.heap.size + 1, 0, none⟩ = some .nilFunc := by rw [hW0]; simp [go_sem]
  have hsz : W0.heap.size = w.heap.size + 1 + 1 := by rw [hW0]; simp
  rw [← hW0]
  have hC0 : CSt W0 ((W0.alloc (.cells #[.int .i32 (r : Int)] 21)).alloc (.map #[⟨.int .i32 (r : Int), .bool true, 0⟩] 1)) (w.heap.size + 1 + 1 + 1) (w.heap.size + 1 + 1) (some ⟨w.heap.size + 1 + 1, 0, none⟩) 1 [(r : Int)] := by
    rw [← hsz]
    refine ⟨(ownI_one W0 r).alloc _, ⟨⟨#[⟨.int .i32 (r : Int), .bool true, 0⟩], 1, ?_, rfl⟩, ?_⟩, ((Keeps.refl W0).alloc _).alloc _, ?_, Nat.le_succ _, rfl⟩
    · have := (MapKept.heap_alloc (W0.alloc (.cells #[.int .i32 (r : Int)] 21)) (.map #[⟨.int .i32 (r : Int), .bool true, 0⟩] 1)).1
      simpa using this
    · intro z hz
      simp at hz
      omega
    · simp [blk]
  have HSZ := hide hsz
  clear hmm hins hW0 hsz
  have hB0 : Bfs (succs dss ls ps) N r [(r : Int)] 0 := Bfs.start (by unfold inN; omega)
  have hd1 := hkW.cell g2
  have hd2 := hkW.cell g3
  have hd3 := hkW.cell g4
  clear g2 g3 g4
  replace h1 := h1.keep hkW
  replace h2 := h2.keep hkW
  replace h3 := h3.keep hkW
  go_loopg [8, 10] N (fun k v i wr => ∃ (j : Nat) (a : Option Addr) (cap : Nat) (cone : List Int), j + k = N ∧ j ≤ cone.length ∧ i = .int .i64 j ∧ v = .slice a cone.length cap ∧ CSt W0 wr (w.heap.size + 1 + 1 + 1) (w.heap.size + 1 + 1) a cap cone ∧ Bfs (succs dss ls ps) N r cone j)
  case atStart => exact ⟨0, _, 1, [(r : Int)], Nat.zero_add _, Nat.zero_le _, rfl, rfl, hC0, hB0⟩
  case round =>
    clear hC0 hB0
    obtain ⟨j, a, cap, cone, hjk, hj, rfl, rfl, hC, hBf⟩ := hrel
    have hcl := hBf.length
    have HJ := hide hjk
    clear hjk
    by_cases hlt : j < cone.length
    · have hxs := (hBf.sound cone[j] (List.getElem_mem hlt)).1
      obtain ⟨bq, offq, u, rfl, cx, rfl, _⟩ := (hC.own.row hC.set.2).at hlt
      obtain ⟨xn, hxn⟩ := Int.eq_ofNat_of_zero_le hxs.1
      have hxN : xn < N := by unfold inN at hxs; omega
      have HCJ := hide (show cone[j]? = some (xn : Int) by rw [List.getElem?_eq_getElem hlt, hxn])
      rw [hxn] at cx
      clear hxs hxn
      have HX := hide (succs_eq (dss := dss) (ls := ls) (ps := ps) (x := xn) (by omega) (by omega) (by omega))
      obtain ⟨b1, off1, u1, rfl, c1, hu1⟩ := h1.at (i := xn) (by omega)
      obtain ⟨b2, off2, u2, rfl, c2, hu2⟩ := h2.at (i := xn) (by omega)
      obtain ⟨b3, off3, u3, rfl, c3, hu3⟩ := h3.at (i := xn) (by omega)
      obtain ⟨au1, capu1, rfl, _⟩ := hu1.shape
      obtain ⟨au2, capu2, rfl, _⟩ := hu2.shape
      obtain ⟨au3, capu3, rfl, _⟩ := hu3.shape
      have m1 := (unhide HB).1 xn (by omega)
      have m2 := (unhide HB).2.1 xn (by omega)
      have m3 := ((unhide HB).2.2 xn (by omega)).1
      have HM3 := hide ((unhide HB).2.2 xn (by omega)).2
      have c1' := hC.keep.cell c1
      have hbx' := hC.keep.cell hbx
      have hd1' := hC.keep.cell hd1
      obtain ⟨wo, rfl⟩ : ∃ wo : World, wo = wr := ⟨_, rfl⟩
      obtain ⟨go, rfl⟩ : ∃ go : Nat, go = gk := ⟨_, rfl⟩
      go_wp2_with (go_at_call 28; refine (clone_any _ dss[xn] _ (RowI.keep hu1 hC.keep) m1).mono ?_; rintro e w1 ⟨a2, cap2, rfl, ho, hk⟩; have q1 := (hC.keep.trans hk).cell hbx; have q2 := (hC.keep.trans hk).cell hd2; have q3 := (hC.keep.trans hk).cell c2)
      have hN0 := hC.clone hk ho
      clear ho hk c1' hbx' hd1' cx q1 q2 q3
      go_loopg [12, 51] ls[xn].length (fun q v i wr => ∃ (m : Nat) (a2 : Option Addr) (cap2 : Nat) (nx : List Int), m + q = ls[xn].length ∧ i = .int .i64 m ∧ v = .slice a2 nx.length cap2 ∧ NSt W0 wr (w.heap.size + 1 + 1 + 1) (w.heap.size + 1 + 1) (some ⟨bq, offq, none⟩) cap cone a2 cap2 nx ∧ nx = dss[xn] ++ (ls[xn].map (·.1)).take m)
      case atStart => exact ⟨0, a2, cap2, dss[xn], Nat.zero_add _, rfl, rfl, hN0, by simp⟩
      case round =>
        clear hN0
        obtain ⟨m, a2, cap2, nx, hmq, rfl, rfl, hS, hnx⟩ := hrel
        have hm : m ≤ ls[xn].length := by omega
        have HJ2 := hide hmq
        have hnl : nx.length ≤ 2097152 := by rw [hnx]; simp; omega
        have HNX := hide hnx
        clear hmq hnx
        by_cases hlt2 : m < ls[xn].length
        · obtain ⟨b5, off5, y0, y1, rfl, c5, c6, ⟨rfl, hy1⟩, ⟨rfl, _⟩⟩ := (LinkRow.keep hu2 hS.c.keep).at hlt2
          have hsz2 := hS.c.size
          go_wp2_with (at_builtin; go_must (refine wpList_pushI rfl _ _ rfl ((hS.own.alloc _).alloc _) rfl (.slice (some ⟨wr.heap.size + 1, 0, none⟩) 1 1) rfl (rowI_one' _ (by simp) (y := ls[xn][m].1) hy1) (by simp; omega) (by simp; omega) ?_); intro a' cap' w' ho hg hl)
          go_roundg (ls[xn].length - (m + 1))
          case rel =>
            refine ⟨m + 1, a', cap', nx ++ [ls[xn][m].1], by omega, by go_num, by simp, ((hS.alloc _).alloc _).push ho hg hl, ?_⟩
            rw [unhide HNX, List.take_succ_eq_append_getElem (by simpa using hlt2)]
            simp
          case measure => have := unhide HJ2; omega
        · have q1 := hS.c.keep.cell hbx
          have q2 := hS.c.keep.cell hd3
          have q3 := hS.c.keep.cell c3
          have hS0 : NSt W0 wr (w.heap.size + 1 + 1 + 1) (w.heap.size + 1 + 1) (some ⟨bq, offq, none⟩) cap cone a2 cap2 nx := hS
          have HNX2 := hide (show nx = dss[xn] ++ ls[xn].map (·.1) ++ (ps[xn].take 0).flatten by rw [unhide HNX, List.take_of_length_le (by simp; omega)]; simp)
          clear hS HNX
          go_wp2
          go_loopg [12, 69] ps[xn].length (fun q v i wr => ∃ (p : Nat) (a2 : Option Addr) (cap2 : Nat) (nx : List Int), p + q = ps[xn].length ∧ i = .int .i64 p ∧ v = .slice a2 nx.length cap2 ∧ NSt W0 wr (w.heap.size + 1 + 1 + 1) (w.heap.size + 1 + 1) (some ⟨bq, offq, none⟩) cap cone a2 cap2 nx ∧ nx = dss[xn] ++ ls[xn].map (·.1) ++ (ps[xn].take p).flatten)
          case atStart => exact ⟨0, a2, cap2, nx, Nat.zero_add _, rfl, rfl, hS0, unhide HNX2⟩
          case round =>
            clear hS0 q1 q2 q3 HNX2
            obtain ⟨p, a2, cap2, nx, hpq, rfl, rfl, hS, hnx⟩ := hrel
            have hp : p ≤ ps[xn].length := by omega
            have HJ3 := hide hpq
            have hfl := flat_len (p := p) (unhide HM3)
            have hnl : nx.length ≤ 1099513724928 := by rw [hnx, List.length_append, List.length_append, List.length_map]; omega
            have HNX := hide hnx
            clear hpq hnx hfl
            by_cases hlt3 : p < ps[xn].length
            · obtain ⟨b6, off6, y, rfl, c6, hy⟩ := hu3.at hlt3
              obtain ⟨ay, capy, rfl, _⟩ := hy.shape
              have m4 := (unhide HM3) p hlt3
              have c6' := hS.c.keep.cell c6
              have hby' := hS.c.keep.cell hby
              have h71 := eql71
              have hsz2 := hS.c.size
              go_wp2_with (at_builtin; go_must (refine wpList_pushI rfl _ _ rfl hS.own rfl (.slice ay ps[xn][p].length capy) rfl (RowI.keep hy hS.c.keep) (by omega) hsz2 ?_); intro a' cap' w' ho hg hl)
              go_roundg (ps[xn].length - (p + 1))
              case rel =>
                refine ⟨p + 1, a', cap', nx ++ ps[xn][p], by omega, by go_num, by simp, hS.push ho hg hl, ?_⟩
                rw [unhide HNX, ← flat_next hlt3 (Nat.le_refl _), List.take_length]
              case measure => have := unhide HJ3; omega
            · have hNs := hide (show nx = succs dss ls ps xn by rw [unhide HX, unhide HNX, List.take_of_length_le (by omega)])
              have hn0 : ∀ z ∈ nx.take 0, z ∈ cone := by simp
              clear HNX
              obtain ⟨wo2, rfl⟩ : ∃ wo : World, wo = wr := ⟨_, rfl⟩
              go_wp2
              go_loopg [8, 87] nx.length (fun q v i wr => ∃ (t : Nat) (a : Option Addr) (cap : Nat) (cone : List Int), t + q = nx.length ∧ i = .int .i64 t ∧ v = .slice a cone.length cap ∧ NSt W0 wr (w.heap.size + 1 + 1 + 1) (w.heap.size + 1 + 1) a cap cone a2 cap2 nx ∧ Bfs (succs dss ls ps) N r cone j ∧ cone[j]? = some (xn : Int) ∧ ∀ z ∈ nx.take t, z ∈ cone)
              case atStart => exact ⟨0, _, cap, cone, Nat.zero_add _, rfl, rfl, hS, hBf, unhide HCJ, hn0⟩
              case round =>
                clear hS hBf HCJ hn0 hC
                obtain ⟨t, a, cap, cone, htq, rfl, rfl, hS, hBf, hcj, hall⟩ := hrel
                have ht : t ≤ nx.length := by omega
                have HJ4 := hide htq
                have HCJ := hide hcj
                have HAL := hide hall
                have hcl := hBf.length
                clear htq hcj hall
                by_cases hlt4 : t < nx.length
                · have hins : nx[t] ∈ succs dss ls ps xn := by rw [← unhide hNs]; exact List.getElem_mem hlt4
                  have hyN : inN N nx[t] := succs_inN (unhide HL).1 (unhide HL).2.1 (unhide HL).2.2 (unhide HK).1 (unhide HK).2.1 (unhide HK).2.2 (xn : Int) (by unfold inN; omega) _ (by simpa using hins)
                  have hyr : -2147483648 ≤ nx[t] ∧ nx[t] ≤ 2147483647 := by unfold inN at hyN; omega
                  have HIN := hide (And.intro hins hyN)
                  have HT := hide (List.take_succ_eq_append_getElem hlt4)
                  obtain ⟨b7, off7, u7, rfl, c7, rfl, _⟩ := (hS.own.row (fun z hz => by
                    rw [unhide hNs] at hz
                    have : inN N z := succs_inN (unhide HL).1 (unhide HL).2.1 (unhide HL).2.2 (unhide HK).1 (unhide HK).2.1 (unhide HK).2.2 (xn : Int) (by unfold inN; omega) _ (by simpa using hz)
                    unfold inN at this
                    omega)).at hlt4
                  have hlk := hS.c.set.look hyr
                  clear hins hyN
                  by_cases hmem : nx[t] ∈ cone
                  · rw [List.contains_iff_mem.2 hmem] at hlk
                    have HME := hide hmem
                    clear hmem
                    go_wp2
                    go_roundg (nx.length - (t + 1))
                    case rel => exact ⟨t + 1, a, cap, cone, by omega, by go_num, rfl, hS, hBf, unhide HCJ, fun z hz => by
                      rw [unhide HT] at hz
                      rcases List.mem_append.1 hz with hz | hz
                      · exact unhide HAL z hz
                      · simp at hz; subst hz; exact unhide HME⟩
                    case measure => have := unhide HJ4; omega
                  · have hcf : cone.contains nx[t] = false := by simpa using hmem
                    rw [hcf] at hlk
                    have HNO := hide (show ∀ p ∈ cone.map (fun z => ((.int .i32 z : Value), (.bool true : Value))), p.1 ≠ .int .i32 nx[t] from fun p hp e => by
                      obtain ⟨z, hz, rfl⟩ := List.mem_map.1 hp
                      simp at e
                      subst e
                      exact hmem hz)
                    have HME := hide hmem
                    clear hmem hcf
                    have hsz2 := hS.c.size
                    go_wp2_with (first
                      | (at_mapUpdate; go_must (refine wpList_store_new rfl _ _ _ 40 rfl i32Keyed Try.underlying40 (w.heap.size + 1 + 1 + 1) (cone.map fun z => (.int .i32 z, .bool true)) rfl hS.c.set.1 (SetIs.keys hS.c.set.2) (.int .i32 nx[t]) (.bool true) rfl rfl _ (key_i32 hyr) (unhide HNO) ?_); intro w1 hM1 hg1)
                      | (at_builtin; go_must (refine wpList_pushI rfl _ _ rfl ((hS.mark hyr hM1 hg1).1.alloc _) rfl (.slice (some ⟨w1.heap.size, 0, none⟩) 1 1) rfl (rowI_one' _ rfl (y := nx[t]) hyr) (by simp; omega) (by have := hg1.size; simp; omega) ?_); intro a' cap' w' ho hg hl))
                    go_roundg (nx.length - (t + 1))
                    case rel =>
                      have hjl : j < cone.length := (List.getElem?_eq_some_iff.1 (unhide HCJ)).1
                      refine ⟨t + 1, a', cap', cone ++ [nx[t]], by omega, by go_num, by simp, hS.add (hS.mark hyr hM1 hg1) _ ho hg hl, hBf.push (List.mem_of_getElem? (unhide HCJ)) (unhide HIN).2 (by simpa using (unhide HIN).1) (unhide HME) (by omega), ?_, fun z hz => ?_⟩
                      · rw [List.getElem?_append_left hjl]; exact unhide HCJ
                      · rw [unhide HT] at hz
                        rcases List.mem_append.1 hz with hz | hz
                        · exact List.mem_append_left _ (unhide HAL z hz)
                        · exact List.mem_append_right _ hz
                    case measure => have := unhide HJ4; omega
                · have hnext := hBf.next (unhide HCJ) (fun z hz => by
                    rw [Int.toNat_natCast, ← unhide hNs] at hz
                    refine unhide HAL z ?_
                    rw [List.take_of_length_le (by omega)]
                    exact hz)
                  have hjl : j < cone.length := (List.getElem?_eq_some_iff.1 (unhide HCJ)).1
                  go_wp2
                  go_roundg (N - (j + 1))
                  case rel => exact ⟨j + 1, a, cap, cone, by omega, by omega, by go_num, rfl, hS.c, hnext⟩
                  case measure => have := unhide HJ; omega
    · have hfin : RowI wr (.slice a cone.length cap) cone := hC.own.row hC.set.2
      have hje : j = cone.length := by omega
      subst hje
      go_wp2
      go_ret
      exact ⟨a, cap, cone, rfl, hfin, hBf, hkW.trans hC.keep⟩
end Go.Proofs.Qxb6613887a
