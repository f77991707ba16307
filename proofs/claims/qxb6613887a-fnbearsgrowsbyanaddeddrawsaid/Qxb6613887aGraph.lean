import Derived.Test.Qxb6613887aLinks
namespace Go.Proofs.Qxb6613887a
open Go.RowKit

theorem MapIs.alloc {w : World} {b : Nat} {kvs : List (Value × Value)} (h : MapIs w b kvs) (o : Obj) : MapIs (w.alloc o) b kvs := h.keep ((Keeps.refl w).alloc o)
theorem MapIs.setCell {w : World} {b : Nat} {kvs : List (Value × Value)} (h : MapIs w b kvs) {p : Addr} (hp : b ≠ p.block) (u : Value) : MapIs (w.setCell p u) b kvs := by
  obtain ⟨es, clock, h1, h2⟩ := h
  exact ⟨es, clock, by rw [Below.heap_setCell _ _ _ _ hp]; exact h1, h2⟩
theorem MapIs.drew {w : World} {b : Nat} {kvs : List (Value × Value)} (h : MapIs w b kvs) : MapIs w.drew b kvs := h
theorem MapIs.keptBy {w w' : World} {b : Nat} {kvs : List (Value × Value)} {row : Option Nat} (h : MapIs w b kvs) (hg : w.grownBy w' row) (hne : row ≠ some b) : MapIs w' b kvs := by
  have hl := h.lt
  obtain ⟨es, clock, h1, h2⟩ := h
  exact ⟨es, clock, by rw [hg.block b hl (fun e => hne e.symm)]; exact h1, h2⟩
theorem MapIs.made (w : World) : MapIs (w.alloc (.map #[] 0)) w.heap.size [] := ⟨#[], 0, (MapKept.heap_alloc w _).1, rfl⟩

set_option maxHeartbeats 400000 in
theorem policyRole_exact (a b : ByteArray) (w : World) :
    Calls Try.prog 16 #[.agg #[.string a, .string b]] w fun e w' => e = .returned (.agg #[.string a, .string b]) ∧ w' = (w.alloc (.cells #[.string a, .string b] 27)).alloc (.cells #[.string a, .string b] 48) := by
  go_enter Try.func16, Try.ntmps16
  go_wp2
  exact bodyPost_ret (v := .agg #[.string a, .string b]) (by simp [results, Try.results16, go_sem]) rfl ⟨rfl, rfl⟩

/-- The entries of the first k roles. -/
def idxK (rs : List Role) (k : Nat) : List (Value × Value) := (rs.take k).zipIdx.map fun p => (roleV p.1, .int .i32 (p.2 : Int))
theorem idxK_succ {rs : List Role} {k : Nat} (h : k < rs.length) : idxK rs (k + 1) = idxK rs k ++ [(roleV rs[k], .int .i32 (k : Int))] := by
  unfold idxK
  rw [List.take_succ_eq_append_getElem h, List.zipIdx_append]
  simp
  omega
theorem idxK_no {rs : List Role} {k : Nat} (h : k < rs.length) (hd : rs.Nodup) : ∀ p ∈ idxK rs k, p.1 ≠ roleV rs[k] := by
  intro p hp e
  obtain ⟨⟨z, j⟩, hz, rfl⟩ := List.mem_map.1 hp
  rw [List.mem_zipIdx_iff_getElem?] at hz
  simp only at hz e
  rw [List.getElem?_take] at hz
  split at hz
  · rename_i hj
    obtain ⟨hj', hzj⟩ := List.getElem?_eq_some_iff.1 hz
    have e' := roleV_inj e
    have := (List.getElem_inj hd).1 (hzj.trans e')
    omega
  · cases hz
theorem idxK_keys {rs : List Role} {k : Nat} (h : ∀ r ∈ rs, r.1.size ≤ maxLen ∧ r.2.size ≤ maxLen) : ∀ p ∈ idxK rs k, ∃ l, keyOf Try.prog 48 p.1 = some l :=
  IndexIs.keys (fun r hr => h r (List.mem_of_mem_take hr)) 0

/-- A block of so many cells, none frozen. -/
def Room (w : World) (b : Nat) (t : TypeId) (m : Nat) : Prop := ∃ cur : Array Value, w.heap[b]? = some (.cells cur t (0, 0)) ∧ cur.size = m
theorem Room.cell {w : World} {b m : Nat} {t : TypeId} (h : Room w b t m) {i : Nat} (hi : i < m) : ∃ v, w.cell? ⟨b, i, none⟩ = some v := by
  obtain ⟨cur, h1, h2⟩ := h
  have : i < cur.size := by omega
  exact ⟨cur[i], by simp [World.cell?, h1, this]⟩
theorem Room.frozen {w : World} {b m : Nat} {t : TypeId} (h : Room w b t m) (i : Nat) : w.frozen? ⟨b, i, none⟩ = false := by
  obtain ⟨cur, h1, h2⟩ := h
  simp [World.frozen?, h1]
theorem Room.lt {w : World} {b m : Nat} {t : TypeId} (h : Room w b t m) : b < w.heap.size := by
  obtain ⟨cur, h1, h2⟩ := h
  exact (Array.getElem?_eq_some_iff.1 h1).1
theorem Room.alloc {w : World} {b m : Nat} {t : TypeId} (h : Room w b t m) (o : Obj) : Room (w.alloc o) b t m := by
  have hl := h.lt
  obtain ⟨cur, h1, h2⟩ := h
  exact ⟨cur, by rw [Below.heap_alloc _ _ _ hl]; exact h1, h2⟩
theorem Room.set {w : World} {b m : Nat} {t : TypeId} (h : Room w b t m) (i : Nat) (v : Value) : Room (w.setCell ⟨b, i, none⟩ v) b t m := by
  obtain ⟨cur, h1, h2⟩ := h
  exact ⟨cur.setIfInBounds i v, by simp [World.setCell, Array.getElem?_modify, h1], by simpa using h2⟩
theorem Room.keptBy {w w' : World} {b m : Nat} {t : TypeId} {row : Option Nat} (h : Room w b t m) (hg : w.grownBy w' row) (hne : row ≠ some b) : Room w' b t m := by
  have hl := h.lt
  obtain ⟨cur, h1, h2⟩ := h
  exact ⟨cur, by rw [hg.block b hl (fun e => hne e.symm)]; exact h1, h2⟩
theorem room_of_own {w' : World} {B b m s : Nat} {t : TypeId} {xs : List Value} (h : w'.ownsRow B t s (.slice (some ⟨b, 0, none⟩) m m) m xs) : Room w' b t (m * s) := by
  rcases h.2 with ⟨hv, _⟩ | ⟨g, cap, cur, hv, _, hg, _, _, hs, _⟩
  · cases hv
  · cases hv
    exact ⟨cur, hg, hs⟩

theorem info48 : (Try.prog.info? 48).map (fun i => (i.zero, i.size, i.bytes)) = some (some (.agg #[.string ByteArray.empty, .string ByteArray.empty]), 2, 32) := by kernel_rfl

set_option maxRecDepth 100000 in
set_option maxHeartbeats 2000000 in
theorem newGraph_any (v0 : Value) (a1 a2 a3 : Option Addr) (n1 n2 n3 c1 c2 c3 : Nat) (rs : List Role) (w : World) (h : RolesI w v0 rs) (hn : rs.length ≤ 4096) (hd : rs.Nodup) :
    Calls Try.prog 10 #[v0, .slice a1 n1 c1, .slice a2 n2 c2, .slice a3 n3 c3] w fun e w' => ∃ v bi ro, e = .returned v ∧ GraphAt w' v (.map (some bi)) ro (.slice a1 n1 c1) (.slice a2 n2 c2) (.slice a3 n3 c3) ∧ IndexIs w' bi rs ∧ Keeps w w' := by
  obtain ⟨a, cap, rfl, _⟩ := h.shape
  obtain ⟨i48, hi48, hz0, hz1, hz2⟩ := info_parts info48
  have hmm := @run_makeMap Try.prog
  have HD := hide hd
  clear hd
  have hsz : ∀ r ∈ rs, r.1.size ≤ maxLen ∧ r.2.size ≤ maxLen := fun r hr => by
    obtain ⟨i, hi, rfl⟩ := List.getElem_of_mem hr
    obtain ⟨_, _, _, _, _, _, _, ⟨_, q1⟩, ⟨_, q2⟩⟩ := h.at hi
    exact ⟨q1, q2⟩
  have HZ := hide hsz
  clear hsz
  go_enter Try.func10, Try.ntmps10
  go_wp2_with (at_make; go_must (refine wpList_make_full _ rfl _ _ 59 rfl w.heap.size 48 i48 (.agg #[.string ByteArray.empty, .string ByteArray.empty]) 2 Try.underlying59 hi48 hz0 hz1 _ _ _ _ rs.length rfl rfl rfl rfl (by rw [hz2]; omega) (by unfold maxLen; omega) (Nat.le_refl _) ?_); intro w2 hown hg2)
  have hR0 := room_of_own hown
  have hlt2 : w.heap.size < w2.heap.size := hR0.lt
  have hK0 : Keeps w (w2.alloc (.map #[] 0)) := (Keeps.grown (Keeps.refl w) hg2 (by simp)).alloc _
  have hM0 : MapIs (w2.alloc (.map #[] 0)) w2.heap.size (idxK rs 0) := MapIs.made w2
  have hR1 := hR0.alloc (.map #[] 0)
  clear hown hg2 hmm hR0
  go_loopg [11] rs.length (fun q i wr => ∃ k : Nat, k + q = rs.length ∧ i = .int .i64 k ∧ MapIs wr w2.heap.size (idxK rs k) ∧ Room wr w.heap.size 48 (rs.length * 2) ∧ Keeps w wr)
  case atStart => exact ⟨0, Nat.zero_add _, rfl, hM0, hR1, hK0⟩
  case round =>
    clear hM0 hR1 hK0
    obtain ⟨k, hk0, rfl, hM, hR, hK⟩ := hrel
    have hk : k ≤ rs.length := by omega
    have HJ := hide hk0
    clear hk0
    by_cases hlt : k < rs.length
    · obtain ⟨b0, off0, u0, u1, rfl, d0, d1, ⟨rfl, q1⟩, ⟨rfl, q2⟩⟩ := (RolesI.keep h hK).at hlt
      obtain ⟨x0, hx0⟩ := hR.cell (i := k * 2) (by omega)
      obtain ⟨x1, hx1⟩ := hR.cell (i := k * 2 + 1) (by omega)
      have fx0 := hR.frozen (k * 2)
      have fx1 := hR.frozen (k * 2 + 1)
      have hbl := hR.lt
      obtain ⟨l, hl⟩ := key_role rs[k] q1 q2
      go_wp2_with (first
        | (go_at_call 16; refine (policyRole_exact _ _ _).mono ?_; rintro e w' ⟨rfl, rfl⟩)
        | (at_mapUpdate; go_must (refine wpList_store_new rfl _ _ _ 60 rfl roleKeyed Try.underlying60 w2.heap.size (idxK rs k) rfl ((((hM.setCell (p := ⟨w.heap.size, k * 2, none⟩) (by simp; omega) _).setCell (p := ⟨w.heap.size, k * 2 + 1, none⟩) (by simp; omega) _).alloc _).alloc _) (idxK_keys (unhide HZ)) (roleV rs[k]) (.int .i32 k) rfl rfl l hl (idxK_no hlt (unhide HD)) ?_); intro w3 hM3 hg3))
      go_roundg (rs.length - (k + 1))
      case rel =>
        refine ⟨k + 1, by omega, by go_num, by rw [idxK_succ hlt]; exact hM3, ?_, ?_⟩
        · exact ((((hR.set _ _).set _ _).alloc _).alloc _).keptBy hg3 (by simp; omega)
        · refine Keeps.grown ((((hK.setCell (p := ⟨w.heap.size, k * 2, none⟩) (Nat.le_refl _) _).setCell (p := ⟨w.heap.size, k * 2 + 1, none⟩) (Nat.le_refl _) _).alloc _).alloc _) hg3 (fun j hj => ?_)
          cases hj
          omega
      case measure => have := unhide HJ; omega
    · have hfin : IndexIs wr w2.heap.size rs := by
        refine ⟨?_, unhide HZ, unhide HD⟩
        have : idxK rs k = rs.zipIdx.map fun p => (roleV p.1, .int .i32 (p.2 : Int)) := by
          unfold idxK
          rw [List.take_of_length_le (by omega)]
        rw [← this]
        exact hM
      have HF := hide hfin
      clear hfin hM
      go_wp2_with (go_at_call 23; refine (newRoleGraph_any _ _ _ _ _ _ _ _ _ _ _ _ _ _).mono ?_; rintro e w' ⟨v, rfl, hk1, hG⟩)
      go_ret
      exact ⟨_, _, _, rfl, hG, (unhide HF).keep hk1, hK.trans hk1⟩
end Go.Proofs.Qxb6613887a
