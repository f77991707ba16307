import Derived.Test.Qxb6613887aOwn
namespace Go.Proofs.Qxb6613887a
open Go.RowKit
open Plain (inN Dfs unseen upd unseen_upd)

/-- What role x leads on to. -/
def succs (dss : List (List Int)) (ls : List (List Link)) (ps : List (List (List Int))) (x : Nat) : List Int :=
  dss.getD x [] ++ (ls.getD x []).map (·.1) ++ (ps.getD x []).flatten

theorem succs_eq {dss : List (List Int)} {ls : List (List Link)} {ps : List (List (List Int))} {x : Nat} (h1 : x < dss.length) (h2 : x < ls.length) (h3 : x < ps.length) : succs dss ls ps x = dss[x] ++ ls[x].map (·.1) ++ ps[x].flatten := by
  simp [succs, List.getD, h1, h2, h3]
theorem succs_inN {dss : List (List Int)} {ls : List (List Link)} {ps : List (List (List Int))} {N : Nat} (l1 : dss.length = N) (l2 : ls.length = N) (l3 : ps.length = N)
    (k1 : ∀ i (hi : i < dss.length), ∀ j (hj : j < dss[i].length), inR N dss[i][j]) (k2 : LinksOK N ls) (k3 : PartsOK N ps) : ∀ x, inN N x → ∀ z ∈ succs dss ls ps x.toNat, inN N z := by
  intro x hx z hz
  unfold inN at hx
  rw [succs_eq (by omega) (by omega) (by omega)] at hz
  rcases List.mem_append.1 hz with hz | hz
  · rcases List.mem_append.1 hz with hz | hz
    · obtain ⟨j, hj, rfl⟩ := List.getElem_of_mem hz
      exact k1 _ _ j hj
    · obtain ⟨y, hy, rfl⟩ := List.mem_map.1 hz
      obtain ⟨j, hj, rfl⟩ := List.getElem_of_mem hy
      exact k2 _ _ j hj
  · obtain ⟨y, hy, hz⟩ := List.mem_flatten.1 hz
    obtain ⟨j, hj, rfl⟩ := List.getElem_of_mem hy
    obtain ⟨k, hk, rfl⟩ := List.getElem_of_mem hz
    exact k3 _ _ j hj k hk

/-- In the round of x: the stack, the marks, what is marked so far. -/
structure St (S : Nat → List Int) (n : Nat) (root : Int) (B g : Nat) (w wr : World) (x : Int) (a : Option Addr) (cap : Nat) (stk : List Int) (s : Nat → Bool) (l : List Int) (gk : Nat) : Prop where
  own : OwnI wr B a cap stk
  row : wr.rowIs g 4 n (fun i => .bool (s i))
  dfs : Dfs S n root s stk [x]
  done : ∀ z ∈ l, s z.toNat = true
  keep : Keeps w wr
  meas : 2 * unseen n s + stk.length + 1 ≤ gk
  size : B ≤ wr.heap.size
  gB : g < B
  gw : w.heap.size ≤ g

variable {S : Nat → List Int} {n : Nat} {root : Int} {B g : Nat} {w wr : World} {x : Int} {a : Option Addr} {cap : Nat} {stk : List Int} {s : Nat → Bool} {l : List Int} {gk : Nat}

theorem St.seen (h : St S n root B g w wr x a cap stk s l gk) {y : Int} (hy : s y.toNat = true) : St S n root B g w wr x a cap stk s (l ++ [y]) gk :=
  ⟨h.own, h.row, h.dfs, fun z hz => by
    rcases List.mem_append.1 hz with hz | hz
    · exact h.done z hz
    · simp at hz; subst hz; exact hy, h.keep, h.meas, h.size, h.gB, h.gw⟩

theorem St.ne (h : St S n root B g w wr x a cap stk s l gk) : blk a ≠ some g := fun e => by
  have := (h.own.blk_ge e).1
  have := h.gB
  omega

theorem St.own2 (h : St S n root B g w wr x a cap stk s l gk) (y : Nat) : OwnI ((wr.setCell ⟨g, y, none⟩ (.bool true)).alloc (.cells #[.int .i32 (y : Int)] 21)) B a cap stk :=
  (h.own.setCell (p := ⟨g, y, none⟩) h.ne _).alloc _
theorem St.size2 (h : St S n root B g w wr x a cap stk s l gk) (y : Nat) : B ≤ ((wr.setCell ⟨g, y, none⟩ (.bool true)).alloc (.cells #[.int .i32 (y : Int)] 21)).heap.size := by
  have := h.size
  simp [World.setCell]
  omega

theorem St.push (h : St S n root B g w wr x a cap stk s l gk) {y : Nat} (hy : inN n y) (hs : s y = false) (hS : (y : Int) ∈ S x.toNat) {a' : Option Addr} {cap' : Nat} {w' : World}
    (ho : OwnI w' B a' cap' (stk ++ [(y : Int)])) (hg : ((wr.setCell ⟨g, y, none⟩ (.bool true)).alloc (.cells #[.int .i32 (y : Int)] 21)).grownBy w' (blk a)) :
    St S n root B g w w' x a' cap' (stk ++ [(y : Int)]) (upd s y) (l ++ [(y : Int)]) gk := by
  have hyn : y < n := by unfold inN at hy; omega
  refine ⟨ho, ?_, ?_, ?_, ?_, ?_, ?_, h.gB, h.gw⟩
  · refine rowIs_kept ?_ hg (fun e => h.ne e)
    refine ((h.row.set y (.bool true)).congr ?_).alloc _
    intro i _
    by_cases e : i = y <;> simp [upd, e]
  · have := h.dfs.push (y := (y : Int)) hy (by simpa using hs) hS
    simpa using this
  · intro z hz
    rcases List.mem_append.1 hz with hz | hz
    · have := h.done z hz
      simp [upd, this]
    · simp at hz; subst hz; simp [upd]
  · refine Keeps.grown ((h.keep.setCell (p := ⟨g, y, none⟩) h.gw _).alloc _) hg (fun k hk => ?_)
    have := (h.own.blk_ge hk).1
    have := h.gB
    have := h.gw
    omega
  · have := unseen_upd hyn hs
    have := h.meas
    simp
    omega
  · exact Nat.le_trans (h.size2 y) hg.size

theorem info4 : (Try.prog.info? 4).map (fun i => (i.zero, i.size, i.bytes)) = some (some (.bool false), 1, 1) := by kernel_rfl

theorem rowI_one' (w : World) {b : Nat} (hb : b = w.heap.size) {y : Int} (hy : -2147483648 ≤ y ∧ y ≤ 2147483647) : RowI (w.alloc (.cells #[.int .i32 y] 21)) (.slice (some ⟨b, 0, none⟩) 1 1) [y] := by
  subst hb
  exact rowI_one w hy
theorem size_setCell (w : World) (p : Addr) (v : Value) : w.heap.size = (w.setCell p v).heap.size := by simp [World.setCell]
theorem stackStart {w' : World} {B N : Nat} (h : w'.ownsRow B 21 1 (.slice (some ⟨g, 0, none⟩) 0 N) 0 []) : OwnI w' B (some ⟨g, 0, none⟩) N [] := h

theorem flat_next {A : List Int} {ps : List (List Int)} {p t : Nat} (hp : p < ps.length) (ht : ps[p].length ≤ t) : A ++ (ps.take p).flatten ++ ps[p].take t = A ++ (ps.take (p + 1)).flatten := by
  rw [List.take_succ_eq_append_getElem hp, List.take_of_length_le ht, List.flatten_append]
  simp
/-- At the outer loop's head. -/
structure Ot (S : Nat → List Int) (n : Nat) (root : Int) (B g : Nat) (w wr : World) (a : Option Addr) (cap : Nat) (stk : List Int) (s : Nat → Bool) (gk : Nat) : Prop where
  own : OwnI wr B a cap stk
  row : wr.rowIs g 4 n (fun i => .bool (s i))
  dfs : Dfs S n root s stk []
  keep : Keeps w wr
  meas : 2 * unseen n s + stk.length ≤ gk
  size : B ≤ wr.heap.size
  gB : g < B
  gw : w.heap.size ≤ g

theorem OwnI.pop {zs : List Int} {z : Int} (h : OwnI wr B a cap (zs ++ [z])) : OwnI wr B a cap zs := by
  refine ⟨by simp, ?_⟩
  rcases h.2 with ⟨hv, hn⟩ | ⟨q, c, cur, hv, hb, hh, h1, h2, h3, h4⟩
  · simp at hn
  · cases hv
    refine Or.inr ⟨q, _, cur, rfl, hb, hh, by simp at h1; omega, h2, h3, ?_⟩
    have : cur.toList.take (zs.length * 1) = (cur.toList.take ((zs ++ [z]).length * 1)).take zs.length := by
      rw [List.take_take]
      congr 1
      simp
    rw [this, h4]
    simp

theorem OwnI.last {zs : List Int} {z : Int} (h : OwnI wr B a cap (zs ++ [z])) : ∃ q, a = some ⟨q, 0, none⟩ ∧ wr.cell? ⟨q, zs.length, none⟩ = some (.int .i32 z) := by
  rcases h.2 with ⟨hv, hn⟩ | ⟨q, c, cur, hv, hb, hh, h1, h2, h3, h4⟩
  · simp at hn
  · cases hv
    refine ⟨q, rfl, ?_⟩
    have : (cur.toList.take ((zs ++ [z]).length * 1))[zs.length]? = some (.int .i32 z) := by rw [h4]; simp
    rw [List.getElem?_take] at this
    simp at this
    simp [World.cell?, hh]
    exact this

theorem Ot.pop {x : Int} (h : Ot S n root B g w wr a cap (stk ++ [x]) s gk) : St S n root B g w wr x a cap stk s [] gk :=
  ⟨h.own.pop, h.row, h.dfs.pop, by simp, h.keep, by have := h.meas; simp at this; omega, h.size, h.gB, h.gw⟩
theorem St.out (h : St S n root B g w wr x a cap stk s l gk) (hl : ∀ z ∈ S x.toNat, z ∈ l) : Ot S n root B g w wr a cap stk s (gk - 1) ∧ gk - 1 < gk :=
  ⟨⟨h.own, h.row, h.dfs.done (fun z hz => h.done z (hl z hz)), h.keep, by have := h.meas; omega, h.size, h.gB, h.gw⟩, by have := h.meas; omega⟩
theorem St.short (h : St S n root B g w wr x a cap stk s l gk) (hn : n ≤ 4096) : (stk.length + 1) * 4 ≤ 140737488355328 := by
  have := h.dfs.bound
  omega
theorem St.re (h : St S n root B g w wr x a cap stk s l gk) {l' : List Int} (hl : l = l') : St S n root B g w wr x a cap stk s l' gk := hl ▸ h

set_option maxRecDepth 100000 in
set_option maxHeartbeats 2000000 in
theorem reach_any (v1 v2 v3 : Value) (dss : List (List Int)) (ls : List (List Link)) (ps : List (List (List Int))) (N r : Nat) (w : World) (h1 : RowsI w v1 dss) (h2 : LinksI w v2 ls) (h3 : PartsI w v3 ps)
    (l1 : dss.length = N) (l2 : ls.length = N) (l3 : ps.length = N) (hr : r < N) (hN : N ≤ 4096)
    (k1 : ∀ i (hi : i < dss.length), ∀ j (hj : j < dss[i].length), inR N dss[i][j]) (k2 : LinksOK N ls) (k3 : PartsOK N ps) :
    Calls Try.prog 9 #[.int .i64 N, v1, v2, v3, .int .i32 r, .bool false] w fun e w' => ∃ (g : Nat) (s : Nat → Bool), e = .returned (.slice (some ⟨g, 0, none⟩) N N) ∧ w'.rowIs g 4 N (fun i => .bool (s i)) ∧
      (∀ y : Nat, y < N → (s y = true ↔ Plain.Reach (succs dss ls ps) r y)) ∧ Keeps w w' := by
  obtain ⟨a1, cap1, rfl, _⟩ := h1.shape
  obtain ⟨a2, cap2, rfl, _⟩ := h2.shape
  obtain ⟨a3, cap3, rfl, _⟩ := h3.shape
  obtain ⟨i21, hi, hz0, hz1, hz2⟩ := info_parts info21
  have HL := hide (And.intro l1 (And.intro l2 l3))
  have HK := hide (And.intro k1 (And.intro k2 k3))
  have hl1 : dss.length ≤ N := by omega
  have hl1' : N ≤ dss.length := by omega
  have hl2 : ls.length ≤ N := by omega
  have hl2' : N ≤ ls.length := by omega
  have hl3 : ps.length ≤ N := by omega
  have hl3' : N ≤ ps.length := by omega
  clear l1 l2 l3 k1 k2 k3
  have hmk := run_make_row' (P := Try.prog) 32 4 (.bool false) 1 Try.underlying32 info4 rfl .i64 .i64 N (by omega) (by omega)
  go_enter Try.func9, Try.ntmps9
  go_wp2_with (first
    | (at_make; refine wpList_make_own _ rfl _ _ 38 rfl (w.heap.size + 1) 21 i21 (.int .i32 0) 1 Try.underlying38 hi hz0 hz1 _ _ _ N rfl rfl rfl (by rw [hz2]; omega) (by unfold maxLen; omega) (by simp) ?_; intro w2 hown hgrow; have hrow := rowIs_kept (World.rowIs_made w (.bool false) N 4) hgrow (by simp); have hc := hrow.cell hr; have hf := hrow.frozen r; have hw2 : w.heap.size + 1 ≤ w2.heap.size := (by have := hgrow.size; simpa using this); clear hmk)
    | (at_builtin; go_must (refine wpList_pushI rfl _ _ rfl (B := w.heap.size + 1) (a := some ⟨w.heap.size + 1, 0, none⟩) (cap := N) (zs := []) (news := [(r : Int)]) ((OwnI.setCell (by simpa using stackStart hown) (p := ⟨w.heap.size, r, none⟩) (by simp [blk]) _).alloc _) rfl (.slice (some ⟨w2.heap.size, 0, none⟩) 1 1) rfl (rowI_one' _ (size_setCell _ _ _) (y := (r : Int)) (by omega)) (by simp) (by simp [World.setCell]; omega) ?_); intro a' cap' w' ho hg hl))
  have hOt : Ot (succs dss ls ps) N r (w.heap.size + 1) w.heap.size w w' a' cap' [(r : Int)] (upd (fun _ => false) r) (2 * N) := by
    have hrN : inN N r := by unfold inN; omega
    have hd := Dfs.start (S := succs dss ls ps) hrN
    simp only [Int.toNat_natCast] at hd
    refine ⟨ho, ?_, hd, ?_, ?_, ?_, Nat.lt_succ_self _, Nat.le_refl _⟩
    · refine rowIs_kept ?_ hg (by simp [blk])
      refine ((hrow.set r (.bool true)).congr ?_).alloc _
      intro i _
      by_cases e : i = r <;> simp [upd, e]
    · refine Keeps.grown ((Keeps.setCell (Keeps.grown ((Keeps.refl w).alloc _) hgrow (by simp)) (p := ⟨w.heap.size, r, none⟩) (Nat.le_refl _) _).alloc _) hg (fun k hk => ?_)
      simp [blk] at hk
      omega
    · have := hd.bound
      simp at this ⊢
      omega
    · have := hg.size
      simp [World.setCell] at this
      omega
  clear ho hg hl hown hgrow hrow hc hf hw2
  go_loopg [14] (2 * N) (fun k v wr => ∃ (a : Option Addr) (cap : Nat) (stk : List Int) (s : Nat → Bool), v = .slice a stk.length cap ∧ Ot (succs dss ls ps) N r (w.heap.size + 1) w.heap.size w wr a cap stk s k)
  case atStart => exact ⟨a', cap', [(r : Int)], _, rfl, hOt⟩
  case round =>
    clear hOt
    obtain ⟨a, cap, stk, s, rfl, hO⟩ := hrel
    rcases List.eq_nil_or_concat stk with rfl | ⟨stk0, x, rfl⟩
    · have HS := hide (show ∀ y : Nat, y < N → (s y = true ↔ Plain.Reach (succs dss ls ps) r y) from fun y hy => by
        have hin : ∀ x, inN N x → ∀ z ∈ succs dss ls ps x.toNat, inN N z := succs_inN (unhide HL).1 (unhide HL).2.1 (unhide HL).2.2 (unhide HK).1 (unhide HK).2.1 (unhide HK).2.2
        have := hO.dfs.final (by unfold inN; omega) hin (y := (y : Int)) (by unfold inN; omega)
        simpa using this)
      go_wp2
      go_ret
      exact ⟨_, s, rfl, hO.row, unhide HS, hO.keep⟩
    · rw [List.concat_eq_append] at hO ⊢
      have hx := hO.dfs.stkR x (by simp)
      obtain ⟨xn, rfl⟩ := Int.eq_ofNat_of_zero_le hx.1.1
      have hxN : xn < N := by have := hx.1; unfold inN at this; omega
      have HX := hide (succs_eq (dss := dss) (ls := ls) (ps := ps) (x := xn) (by omega) (by omega) (by omega))
      obtain ⟨q, rfl, hlast⟩ := hO.own.last
      have hS0 := hO.pop
      have hcp : stk0.length + 1 ≤ cap := by have := hO.own.cap.1; simpa using this
      have hst : stk0.length ≤ 4096 := by have := hS0.dfs.bound; omega
      clear hO hx
      obtain ⟨b1, off1, u1, rfl, c1, hu1⟩ := h1.at (i := xn) (by omega)
      obtain ⟨b2, off2, u2, rfl, c2, hu2⟩ := h2.at (i := xn) (by omega)
      obtain ⟨b3, off3, u3, rfl, c3, hu3⟩ := h3.at (i := xn) (by omega)
      obtain ⟨au1, capu1, rfl, _⟩ := hu1.shape
      obtain ⟨au2, capu2, rfl, _⟩ := hu2.shape
      obtain ⟨au3, capu3, rfl, _⟩ := hu3.shape
      have m1 := hu1.1
      have m2 := hu2.1
      have m3 := hu3.1
      unfold maxLen at m1 m2 m3
      obtain ⟨wo, rfl⟩ : ∃ wo : World, wo = wr := ⟨_, rfl⟩
      obtain ⟨go, rfl⟩ : ∃ go : Nat, go = gk := ⟨_, rfl⟩
      have elen : (stk0 ++ [(xn : Int)]).length = stk0.length + 1 := by simp
      rw [elen]
      clear elen
      go_wp2
      go_loopg [14, 16] dss[xn].length (fun k v i wr => ∃ (j : Nat) (a : Option Addr) (cap : Nat) (stk : List Int) (s : Nat → Bool), j + k = dss[xn].length ∧ i = .int .i64 j ∧ v = .slice a stk.length cap ∧ St (succs dss ls ps) N r (w.heap.size + 1) w.heap.size w wr xn a cap stk s (dss[xn].take j) go)
      case atStart => exact ⟨0, _, cap, stk0, s, Nat.zero_add _, rfl, rfl, hS0⟩
      case round =>
        clear hS0
        obtain ⟨j, a, cap, stk, s, hj0, rfl, rfl, hS⟩ := hrel
        have hj : j ≤ dss[xn].length := by omega
        have HJ := hide hj0
        clear hj0
        have c1' := hS.keep.cell c1
        by_cases hlt : j < dss[xn].length
        · obtain ⟨b4, off4, y, rfl, c4, rfl, _⟩ := (RowI.keep hu1 hS.keep).at hlt
          have hyN := (unhide HK).1 xn (by omega) j hlt
          have hmem : dss[xn][j] ∈ succs dss ls ps xn := by rw [unhide HX]; simp
          have HT : Hid (dss[xn].take (j + 1) = dss[xn].take j ++ [dss[xn][j]]) := List.take_succ_eq_append_getElem hlt
          obtain ⟨yn, hyn⟩ := Int.eq_ofNat_of_zero_le hyN.1
          rw [hyn] at c4 hyN hmem HT
          have hyN' : yn < N := by have := hyN.2; omega
          have HM := hide hmem
          have HY := hide hyn
          clear hyN hmem hyn
          have hcell := hS.row.cell hyN'
          have hfr := hS.row.frozen yn
          cases hs : s yn
          · rw [hs] at hcell
            have HS := hide hs
            clear hs
            go_wp2_with (at_builtin; go_must (refine wpList_pushI rfl _ _ rfl (hS.own2 yn) rfl (.slice (some ⟨wr.heap.size, 0, none⟩) 1 1) rfl (rowI_one' _ (size_setCell _ _ _) (y := (yn : Int)) (by omega)) (hS.short hN) (hS.size2 yn) ?_); intro a' cap' w' ho hg hl)
            go_roundg (dss[xn].length - (j + 1))
            case rel => exact ⟨j + 1, a', cap', stk ++ [(yn : Int)], upd s yn, by omega, by go_num, by simp, (hS.push (by unfold inN; omega) (unhide HS) (by simpa using unhide HM) ho hg).re (unhide HT).symm⟩
            case measure => have := unhide HJ; omega
          · rw [hs] at hcell
            have HS := hide hs
            clear hs
            go_wp2
            go_roundg (dss[xn].length - (j + 1))
            case rel => exact ⟨j + 1, a, cap, stk, s, by omega, by go_num, rfl, (hS.seen (y := (yn : Int)) (by simpa using unhide HS)).re (unhide HT).symm⟩
            case measure => have := unhide HJ; omega
        · have hS1 := hS.re (l' := dss[xn] ++ (ls[xn].map (·.1)).take 0) (by simp; exact List.take_of_length_le (by omega))
          clear hS
          obtain ⟨wo1, rfl⟩ : ∃ wo : World, wo = wr := ⟨_, rfl⟩
          obtain ⟨g1, rfl⟩ : ∃ go : Nat, go = gk := ⟨_, rfl⟩
          go_wp2
          go_loopg [14, 18] ls[xn].length (fun k v i wr => ∃ (j : Nat) (a : Option Addr) (cap : Nat) (stk : List Int) (s : Nat → Bool), j + k = ls[xn].length ∧ i = .int .i64 j ∧ v = .slice a stk.length cap ∧ St (succs dss ls ps) N r (w.heap.size + 1) w.heap.size w wr xn a cap stk s (dss[xn] ++ (ls[xn].map (·.1)).take j) go)
          case atStart => exact ⟨0, a, cap, stk, s, Nat.zero_add _, rfl, rfl, hS1⟩
          case round =>
            clear hS1 c1'
            obtain ⟨m, a, cap, stk, s, hj0, rfl, rfl, hS⟩ := hrel
            have hm : m ≤ ls[xn].length := by omega
            have HJ := hide hj0
            clear hj0
            have c2' := hS.keep.cell c2
            by_cases hlt2 : m < ls[xn].length
            · obtain ⟨b5, off5, y0, y1, rfl, c5, _, ⟨rfl, _⟩, ⟨rfl, _⟩⟩ := (LinkRow.keep hu2 hS.keep).at hlt2
              have hyN := (unhide HK).2.1 xn (by omega) m hlt2
              have hmem : ls[xn][m].1 ∈ succs dss ls ps xn := by
                rw [unhide HX]
                exact List.mem_append_left _ (List.mem_append_right _ (List.mem_map.2 ⟨_, List.getElem_mem hlt2, rfl⟩))
              have HT : Hid (dss[xn] ++ (ls[xn].map (·.1)).take (m + 1) = dss[xn] ++ (ls[xn].map (·.1)).take m ++ [ls[xn][m].1]) := by
                rw [Hid, List.take_succ_eq_append_getElem (by simpa using hlt2)]
                simp
              obtain ⟨yn, hyn⟩ := Int.eq_ofNat_of_zero_le hyN.1
              rw [hyn] at c5 hyN hmem HT
              have hyN' : yn < N := by have := hyN.2; omega
              have HM := hide hmem
              have HY := hide hyn
              clear hyN hmem hyn
              have hcell := hS.row.cell hyN'
              have hfr := hS.row.frozen yn
              cases hs : s yn
              · rw [hs] at hcell
                have HS := hide hs
                clear hs
                go_wp2_with (at_builtin; go_must (refine wpList_pushI rfl _ _ rfl (hS.own2 yn) rfl (.slice (some ⟨wr.heap.size, 0, none⟩) 1 1) rfl (rowI_one' _ (size_setCell _ _ _) (y := (yn : Int)) (by omega)) (hS.short hN) (hS.size2 yn) ?_); intro a' cap' w' ho hg hl)
                go_roundg (ls[xn].length - (m + 1))
                case rel => exact ⟨m + 1, a', cap', stk ++ [(yn : Int)], upd s yn, by omega, by go_num, by simp, (hS.push (by unfold inN; omega) (unhide HS) (by simpa using unhide HM) ho hg).re (unhide HT).symm⟩
                case measure => have := unhide HJ; omega
              · rw [hs] at hcell
                have HS := hide hs
                clear hs
                go_wp2
                go_roundg (ls[xn].length - (m + 1))
                case rel => exact ⟨m + 1, a, cap, stk, s, by omega, by go_num, rfl, (hS.seen (y := (yn : Int)) (by simpa using unhide HS)).re (unhide HT).symm⟩
                case measure => have := unhide HJ; omega
            · have hS2 := hS.re (l' := dss[xn] ++ ls[xn].map (·.1) ++ (ps[xn].take 0).flatten) (by simp; exact List.take_of_length_le (by simp; omega))
              clear hS
              obtain ⟨wo2, rfl⟩ : ∃ wo : World, wo = wr := ⟨_, rfl⟩
              obtain ⟨g2, rfl⟩ : ∃ go : Nat, go = gk := ⟨_, rfl⟩
              go_wp2
              go_loopg [14, 20] ps[xn].length (fun k v i wr => ∃ (j : Nat) (a : Option Addr) (cap : Nat) (stk : List Int) (s : Nat → Bool), j + k = ps[xn].length ∧ i = .int .i64 j ∧ v = .slice a stk.length cap ∧ St (succs dss ls ps) N r (w.heap.size + 1) w.heap.size w wr xn a cap stk s (dss[xn] ++ ls[xn].map (·.1) ++ (ps[xn].take j).flatten) go)
              case atStart => exact ⟨0, a, cap, stk, s, Nat.zero_add _, rfl, rfl, hS2⟩
              case round =>
                clear hS2 c2'
                obtain ⟨p, a, cap, stk, s, hj0, rfl, rfl, hS⟩ := hrel
                have hp : p ≤ ps[xn].length := by omega
                have HJ0 := hide hj0
                clear hj0
                have c3' := hS.keep.cell c3
                by_cases hlt3 : p < ps[xn].length
                · obtain ⟨b6, off6, y, rfl, c6, hy⟩ := hu3.at hlt3
                  obtain ⟨ay, capy, rfl, _⟩ := hy.shape
                  have m4 := hy.1
                  unfold maxLen at m4
                  have c6' := hS.keep.cell c6
                  have hS3 := hS.re (l' := dss[xn] ++ ls[xn].map (·.1) ++ (ps[xn].take p).flatten ++ ps[xn][p].take 0) (by simp)
                  clear hS
                  obtain ⟨wo3, rfl⟩ : ∃ wo : World, wo = wr := ⟨_, rfl⟩
                  obtain ⟨g3, rfl⟩ : ∃ go : Nat, go = gk := ⟨_, rfl⟩
                  go_wp2
                  go_loopg [14, 21] ps[xn][p].length (fun k v i wr => ∃ (j : Nat) (a : Option Addr) (cap : Nat) (stk : List Int) (s : Nat → Bool), j + k = ps[xn][p].length ∧ i = .int .i64 j ∧ v = .slice a stk.length cap ∧ St (succs dss ls ps) N r (w.heap.size + 1) w.heap.size w wr xn a cap stk s (dss[xn] ++ ls[xn].map (·.1) ++ (ps[xn].take p).flatten ++ ps[xn][p].take j) go)
                  case atStart => exact ⟨0, a, cap, stk, s, Nat.zero_add _, rfl, rfl, hS3⟩
                  case round =>
                    clear hS3 c3' c6'
                    obtain ⟨t, a, cap, stk, s, hj0, rfl, rfl, hS⟩ := hrel
                    have ht : t ≤ ps[xn][p].length := by omega
                    have HJ := hide hj0
                    clear hj0
                    have c3' := hS.keep.cell c3
                    have c6' := hS.keep.cell c6
                    by_cases hlt4 : t < ps[xn][p].length
                    · obtain ⟨b7, off7, y, rfl, c7, rfl, _⟩ := (RowI.keep hy hS.keep).at hlt4
                      have hyN := (unhide HK).2.2 xn (by omega) p hlt3 t hlt4
                      have hmem : ps[xn][p][t] ∈ succs dss ls ps xn := by
                        rw [unhide HX]
                        exact List.mem_append_right _ (List.mem_flatten.2 ⟨_, List.getElem_mem hlt3, List.getElem_mem hlt4⟩)
                      have HT : Hid (dss[xn] ++ ls[xn].map (·.1) ++ (ps[xn].take p).flatten ++ ps[xn][p].take (t + 1) = dss[xn] ++ ls[xn].map (·.1) ++ (ps[xn].take p).flatten ++ ps[xn][p].take t ++ [ps[xn][p][t]]) := by
                        rw [Hid, List.take_succ_eq_append_getElem hlt4]
                        simp
                      obtain ⟨yn, hyn⟩ := Int.eq_ofNat_of_zero_le hyN.1
                      rw [hyn] at c7 hyN hmem HT
                      have hyN' : yn < N := by have := hyN.2; omega
                      have HM := hide hmem
                      have HY := hide hyn
                      clear hyN hmem hyn
                      have hcell := hS.row.cell hyN'
                      have hfr := hS.row.frozen yn
                      cases hs : s yn
                      · rw [hs] at hcell
                        have HS := hide hs
                        clear hs
                        go_wp2_with (at_builtin; go_must (refine wpList_pushI rfl _ _ rfl (hS.own2 yn) rfl (.slice (some ⟨wr.heap.size, 0, none⟩) 1 1) rfl (rowI_one' _ (size_setCell _ _ _) (y := (yn : Int)) (by omega)) (hS.short hN) (hS.size2 yn) ?_); intro a' cap' w' ho hg hl)
                        go_roundg (ps[xn][p].length - (t + 1))
                        case rel => exact ⟨t + 1, a', cap', stk ++ [(yn : Int)], upd s yn, by omega, by go_num, by simp, (hS.push (by unfold inN; omega) (unhide HS) (by simpa using unhide HM) ho hg).re (unhide HT).symm⟩
                        case measure => have := unhide HJ; omega
                      · rw [hs] at hcell
                        have HS := hide hs
                        clear hs
                        go_wp2
                        go_roundg (ps[xn][p].length - (t + 1))
                        case rel => exact ⟨t + 1, a, cap, stk, s, by omega, by go_num, rfl, (hS.seen (y := (yn : Int)) (by simpa using unhide HS)).re (unhide HT).symm⟩
                        case measure => have := unhide HJ; omega
                    · have hS4 := hS.re (l' := dss[xn] ++ ls[xn].map (·.1) ++ (ps[xn].take (p + 1)).flatten) (flat_next hlt3 (by omega))
                      go_wp2
                      go_roundg (ps[xn].length - (p + 1))
                      case rel => exact ⟨p + 1, a, cap, stk, s, by omega, by go_num, rfl, hS4⟩
                      case measure => have := unhide HJ0; omega
                · have hS5 := hS.out (fun z hz => by
                    rw [Int.toNat_natCast, unhide HX] at hz
                    rw [List.take_of_length_le (by omega : ps[xn].length ≤ p)]
                    exact hz)
                  clear hS
                  go_wp2
                  go_roundg (go - 1)
                  case rel => exact ⟨a, cap, stk, s, rfl, hS5.1⟩
                  case measure => exact hS5.2
end Go.Proofs.Qxb6613887a
