import Derived.Test.Qxb6613887aOwn
import Derived.Deep.RegionHeld3
namespace Go.Proofs.Qxb6613887a
open Go.RowKit

set_option maxHeartbeats 400000 in
theorem newLinkInto_exact (a : Int) (b : ByteArray) (w : World) :
    Calls Try.prog 24 #[.int .i32 a, .string b] w fun e w' => e = .returned (.agg #[.int .i32 a, .string b]) ∧ w' = w.alloc (.cells #[.int .i32 a, .string b] 64) := by
  go_enter Try.func24, Try.ntmps24
  go_wp2
  exact bodyPost_ret (v := .agg #[.int .i32 a, .string b]) (by simp [results, Try.results24, go_sem]) rfl ⟨rfl, rfl⟩

/-- One row that was laid, not in block go. -/
def RowGood (w : World) (go : Nat) (v : Value) (l : List Link) : Prop :=
  (v = .slice none 0 0 ∧ l = []) ∨ ∃ b, go < b ∧ v = .slice (some ⟨b, 0, none⟩) l.length l.length ∧ ∀ t (h : t < l.length), w.cell? ⟨b, t * 2, none⟩ = some (.int .i32 l[t].1) ∧ w.cell? ⟨b, t * 2 + 1, none⟩ = some (.string l[t].2)

theorem RowGood.step {w w' : World} {go : Nat} {v : Value} {l : List Link} (h : RowGood w go v l) (hb : ∀ b, go < b → b < w.heap.size → w'.heap[b]? = w.heap[b]?) : RowGood w' go v l := by
  rcases h with h | ⟨b, h1, h2, h3⟩
  · exact Or.inl h
  · refine Or.inr ⟨b, h1, h2, fun t ht => ?_⟩
    obtain ⟨c1, c2⟩ := h3 t ht
    have hlt := cell_lt c1
    exact ⟨by rw [World.cell?_of_block (w := w) (hb b h1 hlt)]; exact c1, by rw [World.cell?_of_block (w := w) (hb b h1 hlt)]; exact c2⟩

/-- The row that is being filled: the first j elements are laid. -/
def Filling (w : World) (b m : Nat) (l : List Link) (j : Nat) : Prop :=
  ∃ cur : Array Value, w.heap[b]? = some (.cells cur 64 (0, 0)) ∧ cur.size = m * 2 ∧ ∀ t (h : t < l.length), t < j → cur[t * 2]? = some (.int .i32 l[t].1) ∧ cur[t * 2 + 1]? = some (.string l[t].2)

theorem Filling.cell {w : World} {b m : Nat} {l : List Link} {j : Nat} (h : Filling w b m l j) {i : Nat} (hi : i < m * 2) : ∃ v, w.cell? ⟨b, i, none⟩ = some v := by
  obtain ⟨cur, h1, h2, _⟩ := h
  have : i < cur.size := by omega
  exact ⟨cur[i], by simp [World.cell?, h1, this]⟩
theorem Filling.frozen {w : World} {b m : Nat} {l : List Link} {j : Nat} (h : Filling w b m l j) (i : Nat) : w.frozen? ⟨b, i, none⟩ = false := by
  obtain ⟨cur, h1, h2, _⟩ := h
  simp [World.frozen?, h1]
theorem Filling.lt {w : World} {b m : Nat} {l : List Link} {j : Nat} (h : Filling w b m l j) : b < w.heap.size := by
  obtain ⟨cur, h1, h2, _⟩ := h
  exact (Array.getElem?_eq_some_iff.1 h1).1
theorem Filling.alloc {w : World} {b m : Nat} {l : List Link} {j : Nat} (h : Filling w b m l j) (o : Obj) : Filling (w.alloc o) b m l j := by
  have hl := h.lt
  obtain ⟨cur, h1, h2⟩ := h
  exact ⟨cur, by rw [Below.heap_alloc _ _ _ hl]; exact h1, h2⟩
theorem Filling.put {w : World} {b m : Nat} {l : List Link} {j : Nat} (h : Filling w b m l j) (hj : j < l.length) (hm : l.length = m) :
    Filling ((w.setCell ⟨b, j * 2, none⟩ (.int .i32 l[j].1)).setCell ⟨b, j * 2 + 1, none⟩ (.string l[j].2)) b m l (j + 1) := by
  obtain ⟨cur, h1, h2, h3⟩ := h
  refine ⟨(cur.setIfInBounds (j * 2) (.int .i32 l[j].1)).setIfInBounds (j * 2 + 1) (.string l[j].2), ?_, by simpa using h2, ?_⟩
  · simp [World.setCell, Array.getElem?_modify, h1]
  · intro t ht htj
    have e1 : j * 2 < cur.size := by omega
    have e2 : j * 2 + 1 < cur.size := by omega
    by_cases e : t = j
    · subst e
      refine ⟨?_, ?_⟩
      · rw [Array.getElem?_setIfInBounds, if_neg (by omega), Array.getElem?_setIfInBounds, if_pos rfl]
        simp [e1]
      · rw [Array.getElem?_setIfInBounds, if_pos rfl]
        simp [e2]
    · have := h3 t ht (by omega)
      refine ⟨?_, ?_⟩
      · rw [Array.getElem?_setIfInBounds, if_neg (by omega), Array.getElem?_setIfInBounds, if_neg (by omega)]; exact this.1
      · rw [Array.getElem?_setIfInBounds, if_neg (by omega), Array.getElem?_setIfInBounds, if_neg (by omega)]; exact this.2
theorem Filling.good {w : World} {b m go : Nat} {l : List Link} {j : Nat} (h : Filling w b m l j) (hj : l.length ≤ j) (hg : go < b) : RowGood w go (.slice (some ⟨b, 0, none⟩) l.length l.length) l := by
  obtain ⟨cur, h1, h2, h3⟩ := h
  refine Or.inr ⟨b, hg, rfl, fun t ht => ?_⟩
  have := h3 t ht (by omega)
  exact ⟨by simp [World.cell?, h1, this.1], by simp [World.cell?, h1, this.2]⟩

theorem info62 : (Try.prog.info? 62).map (fun i => (i.zero, i.size, i.bytes)) = some (some (.slice none 0 0), 1, 24) := by kernel_rfl
theorem info64 : (Try.prog.info? 64).map (fun i => (i.zero, i.size, i.bytes)) = some (some (.agg #[.int .i32 0, .string ByteArray.empty]), 2, 24) := by kernel_rfl

theorem filling_start {w' : World} {B b m : Nat} {l : List Link} {xs : List Value} (h : w'.ownsRow B 64 2 (.slice (some ⟨b, 0, none⟩) m m) m xs) : Filling w' b m l 0 := by
  rcases h.2 with ⟨hv, _⟩ | ⟨g, cap, cur, hv, _, hg, _, _, hs, _⟩
  · cases hv
  · cases hv
    exact ⟨cur, hg, hs, fun t _ ht => by omega⟩

/-- At the outer loop's head: the first i rows are laid. -/
structure LinkSt (w wr : World) (go : Nat) (ls : List (List Link)) (V : Nat → Value) (i : Nat) : Prop where
  row : wr.rowIs go 62 ls.length V
  good : ∀ j (h : j < ls.length), j < i → RowGood wr go (V j) ls[j]
  rest : ∀ j, i ≤ j → V j = .slice none 0 0
  keep : Keeps w wr
  go : go = w.heap.size

theorem LinkSt.skip {w wr : World} {go : Nat} {ls : List (List Link)} {V : Nat → Value} {i : Nat} (h : LinkSt w wr go ls V i) (hi : i < ls.length) (he : ls[i] = []) : LinkSt w wr go ls V (i + 1) :=
  ⟨h.row, fun j hj hji => by
    by_cases e : j = i
    · subst e; exact Or.inl ⟨h.rest j (Nat.le_refl _), he⟩
    · exact h.good j hj (by omega), fun j hj => h.rest j (by omega), h.keep, h.go⟩

theorem LinkSt.put {w wr w1 : World} {go b : Nat} {ls : List (List Link)} {V : Nat → Value} {i : Nat} (h : LinkSt w wr go ls V i) (hi : i < ls.length) (hk : Keeps wr w1) (hf : Filling w1 b ls[i].length ls[i] ls[i].length) (hb : wr.heap.size ≤ b) :
    LinkSt w (w1.setCell ⟨go, i, none⟩ (.slice (some ⟨b, 0, none⟩) ls[i].length ls[i].length)) go ls (fun j => if j = i then .slice (some ⟨b, 0, none⟩) ls[i].length ls[i].length else V j) (i + 1) := by
  have hgo := h.row.lt
  refine ⟨(h.row.of_block (hk.block go hgo)).set i _, ?_, ?_, ?_, h.go⟩
  · intro j hj hji
    by_cases e : j = i
    · subst e
      simp only [if_true]
      refine (hf.good (Nat.le_refl _) (by omega)).step fun c hc _ => ?_
      exact Below.heap_setCell _ _ _ _ (by simp; omega)
    · simp only [if_neg e]
      refine (h.good j hj (by omega)).step fun c hc hlt => ?_
      rw [Below.heap_setCell _ _ _ _ (by simp; omega)]
      exact hk.block c hlt
  · intro j hj
    rw [if_neg (by omega)]
    exact h.rest j (by omega)
  · exact (h.keep.trans hk).setCell (by rw [h.go]; exact Nat.le_refl _) _

set_option maxRecDepth 100000 in
set_option maxHeartbeats 2000000 in
theorem links_any (v : Value) (ls : List (List Link)) (w : World) (h : LinksI w v ls) (hn : ls.length ≤ 4096) (hb : ∀ i (hi : i < ls.length), ls[i].length ≤ 1048576) :
    Calls Try.prog 11 #[v] w fun e w' => ∃ v', e = .returned v' ∧ LinksI w' v' ls ∧ Keeps w w' := by
  obtain ⟨a, cap, rfl, _⟩ := h.shape
  obtain ⟨i64, hi64, hz0, hz1, hz2⟩ := info_parts info64
  have HB := hide hb
  clear hb
  have hmk := run_make_row' (P := Try.prog) 36 62 (.slice none 0 0) 24 Try.underlying36 info62 rfl .i64 .i64 ls.length (by omega) (by omega)
  go_enter Try.func11, Try.ntmps11
  go_wp2
  have hst : LinkSt w (w.alloc (.cells (madeCells #[.slice none 0 0] ls.length) 62)) w.heap.size ls (fun _ => .slice none 0 0) 0 := ⟨World.rowIs_made _ _ _ _, fun j _ hj => by omega, fun _ _ => rfl, (Keeps.refl w).alloc _, rfl⟩
  clear hmk
  go_loopg [4, 5, 6] ls.length (fun k i _ _ wr => ∃ (j : Nat) (V : Nat → Value), j + k = ls.length ∧ i = .int .i64 j ∧ LinkSt w wr w.heap.size ls V j)
  case atStart => exact ⟨0, _, Nat.zero_add _, rfl, hst⟩
  case round =>
    clear hst
    obtain ⟨k, V, hk0, rfl, hS⟩ := hrel
    have hk : k ≤ ls.length := by omega
    have HJ := hide hk0
    clear hk0
    by_cases hlt : k < ls.length
    · obtain ⟨b1, off1, u1, rfl, c1, hu1⟩ := h.at hlt
      obtain ⟨au, capu, rfl, hnil⟩ := hu1.shape
      have m1 := (unhide HB) k hlt
      have c1' := hS.keep.cell c1
      cases au with
      | none =>
        have he : ls[k] = [] := by
          obtain ⟨_, _, _, hv, _, hx⟩ := hu1
          cases hv
          rcases hx with hx | ⟨_, _, hx, _⟩
          · exact hx
          · cases hx
        have hnx := hS.skip hlt he
        have hl0 : ls[k].length ≤ 0 := by rw [he]; simp
        clear he
        obtain rfl := hnil rfl
        have heq := fun w => Lib.run_eql_slice_nil (P := Try.prog) w 54 56 none ls[k].length 0 0 0 Try.underlying54
        go_wp2
        go_roundg (ls.length - (k + 1))
        case rel => exact ⟨k + 1, V, by omega, by go_num, hnx⟩
        case measure => have := unhide HJ; omega
      | some ad =>
        clear hnil
        have heq := fun w => Lib.run_eql_slice_nil (P := Try.prog) w 54 56 (some ad) ls[k].length capu 0 0 Try.underlying54
        obtain ⟨wo, rfl⟩ : ∃ wo : World, wo = wr := ⟨_, rfl⟩
        obtain ⟨g0, rfl⟩ : ∃ go : Nat, go = gk := ⟨_, rfl⟩
        have hgrow := hS.row.lt
        go_wp2_with (at_make; go_must (refine wpList_make_full _ rfl _ _ 62 rfl wo.heap.size 64 i64 (.agg #[.int .i32 0, .string ByteArray.empty]) 2 Try.underlying62 hi64 hz0 hz1 _ _ _ _ ls[k].length rfl rfl rfl rfl (by rw [hz2]; omega) (by unfold maxLen; omega) (Nat.le_refl _) ?_); intro w2 hown hg2)
        have hKi0 : Keeps wo w2 := Keeps.grown (Keeps.refl wo) hg2 (by simp)
        have hF0 : Filling w2 wo.heap.size ls[k].length ls[k] 0 := filling_start hown
        clear hown hg2
        go_loopg [6] ls[k].length (fun q j wr => ∃ m : Nat, m + q = ls[k].length ∧ j = .int .i64 m ∧ Filling wr wo.heap.size ls[k].length ls[k] m ∧ Keeps wo wr)
        case atStart => exact ⟨0, Nat.zero_add _, rfl, hF0, hKi0⟩
        case round =>
          clear hF0 hKi0
          obtain ⟨m, hm0, rfl, hF, hKi⟩ := hrel
          have hm : m ≤ ls[k].length := by omega
          have HJ2 := hide hm0
          clear hm0
          have hKw := hS.keep.trans hKi
          have c1'' := hKw.cell c1
          by_cases hlt2 : m < ls[k].length
          · obtain ⟨b4, off4, y0, y1, hae, e0, e1, ⟨rfl, _⟩, ⟨rfl, _⟩⟩ := (LinkRow.keep hu1 hKw).at hlt2
            cases hae
            obtain ⟨x0, hx0⟩ := hF.cell (i := m * 2) (by omega)
            obtain ⟨x1, hx1⟩ := hF.cell (i := m * 2 + 1) (by omega)
            have fx0 := hF.frozen (m * 2)
            have fx1 := hF.frozen (m * 2 + 1)
            have hbl := hF.lt
            have n1 : b1 < wo.heap.size := cell_lt (hS.keep.cell c1)
            have n4 : b4 < wo.heap.size := by
              obtain ⟨b5, off5, y0, y1, hae, e0, e1, _⟩ := (LinkRow.keep hu1 hS.keep).at hlt2
              cases hae
              exact cell_lt e0
            have n1' : ¬ b1 = wo.heap.size := by omega
            have n4' : ¬ b4 = wo.heap.size := by omega
            have n1'' : ¬ wo.heap.size = b1 := by omega
            have n4'' : ¬ wo.heap.size = b4 := by omega
            have n5 : ¬ wo.heap.size = wr.heap.size := by omega
            have n6 : ¬ wr.heap.size = wo.heap.size := by omega
            go_wp2
            go_region_held3 (fun w' => w'.cell? ⟨b1, off1 + k, none⟩ = some (.slice (some ⟨b4, off4, none⟩) ls[k].length capu) ∧ w'.cell? ⟨b4, off4 + m * 2, none⟩ = some (.int .i32 ls[k][m].1) ∧ w'.cell? ⟨b4, off4 + m * 2 + 1, none⟩ = some (.string ls[k][m].2)) (go_keep) (first | (go_at_call 24; refine (newLinkInto_exact _ _ _).mono ?_; rintro e w' ⟨rfl, rfl⟩))
            go_wp2
            go_roundg (ls[k].length - (m + 1))
            case rel =>
              refine ⟨m + 1, by omega, by go_num, ?_, ?_⟩
              · exact (hF.put hlt2 rfl).alloc _
              · exact (((hKi.setCell (p := ⟨wo.heap.size, m * 2, none⟩) (Nat.le_refl _) _).setCell (p := ⟨wo.heap.size, m * 2 + 1, none⟩) (Nat.le_refl _) _).alloc _).drew
            case measure => have := unhide HJ2; omega
          · have hdone : Filling wr wo.heap.size ls[k].length ls[k] ls[k].length := by
              obtain rfl : m = ls[k].length := by omega
              exact hF
            have hnx := hS.put hlt hKi hdone (Nat.le_refl _)
            have hgo := (hS.row.of_block (hKi.block _ hgrow)).cell hlt
            have hgf := (hS.row.of_block (hKi.block _ hgrow)).frozen k
            clear hF hdone
            go_wp2
            go_roundg (ls.length - (k + 1))
            case rel => exact ⟨k + 1, _, by omega, by go_num, hnx⟩
            case measure => have := unhide HJ; omega
    · have hfin : LinksI wr (.slice (some ⟨w.heap.size, 0, none⟩) ls.length ls.length) ls := by
        refine ⟨by unfold maxLen; omega, _, _, rfl, (fun h => by cases h), Or.inr ⟨_, _, rfl, fun i hi => ⟨V i, by simpa using hS.row.cell hi, ?_⟩⟩⟩
        have hgi := hS.good i hi (by omega)
        obtain ⟨_, _, u, _, _, hu⟩ := h.at hi
        refine ⟨hu.1, ?_⟩
        obtain ⟨au, capu, rfl, _⟩ := hu.shape
        rcases hgi with ⟨hv, he⟩ | ⟨b, _, hv, hc⟩
        · exact ⟨none, 0, by rw [hv, he]; rfl, fun _ => rfl, Or.inl he⟩
        · refine ⟨_, _, hv, (fun h => by cases h), Or.inr ⟨b, 0, rfl, fun t ht => ?_⟩⟩
          obtain ⟨_, _, _, _, _, _, _, ⟨_, q1⟩, ⟨_, q2⟩⟩ := hu.at ht
          have := hc t ht
          exact ⟨_, _, by simpa using this.1, by simpa using this.2, ⟨rfl, q1⟩, ⟨rfl, q2⟩⟩
      go_wp2
      go_ret
      exact ⟨_, rfl, hfin, hS.keep⟩
end Go.Proofs.Qxb6613887a
