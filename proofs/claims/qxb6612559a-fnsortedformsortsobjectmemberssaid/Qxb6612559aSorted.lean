import Derived.Test.Qxb6612559aIs
import Derived.Test.Qxb6612559aIter
namespace Go.Proofs.Qxb6612559a
open Go.RowKit

def Hid (p : Prop) : Prop := p
theorem hide {p : Prop} (h : p) : Hid p := h
theorem unhide {p : Prop} (h : Hid p) : p := h

theorem info39 : (Try.prog.info? 39).map (fun i => (i.zero, i.size, i.bytes)) = some (some (.agg #[.string ByteArray.empty, .nilIface]), 2, 32) := by kernel_rfl
theorem info_parts {t : TypeId} {z : Value} {s b : Nat} (h : (Try.prog.info? t).map (fun i => (i.zero, i.size, i.bytes)) = some (some z, s, b)) : ∃ i, Try.prog.info? t = some i ∧ i.zero = some z ∧ i.size = s ∧ i.bytes = b := by
  cases hi : Try.prog.info? t with
  | none => rw [hi] at h; cases h
  | some i =>
    rw [hi] at h
    simp at h
    exact ⟨i, rfl, h.1, h.2.1, h.2.2⟩

/-- Every block but g is as it was. -/
def Stays (w w' : World) (g : Nat) : Prop := ∀ i, i < w.heap.size → i ≠ g → w'.heap[i]? = w.heap[i]?

theorem Stays.cell {w w' : World} {g : Nat} (h : Stays w w' g) {p : Addr} {u : Value} (hc : w.cell? p = some u) (hp : p.block ≠ g) : w'.cell? p = some u := by
  have := h p.block (cell_lt hc) hp
  unfold World.cell? at hc ⊢
  rw [this]; exact hc
theorem Stays.grown {w w' w'' : World} {g : Nat} (h : Stays w w' g) (hs : w.heap.size ≤ w'.heap.size) (hg : w'.grownBy w'' (some g)) : Stays w w'' g := fun i hi hne => by
  rw [hg.block i (by omega) (by simpa using hne)]; exact h i hi hne
theorem Stays.alloc {w w' : World} {g : Nat} (h : Stays w w' g) (hs : w.heap.size ≤ w'.heap.size) (o : Obj) : Stays w (w'.alloc o) g := fun i hi hne => by
  rw [← h i hi hne]
  exact Below.heap_alloc _ _ i (by omega)
theorem Stays.ownsMap {w w' : World} {g b n : Nat} {D : Dat} {R : Value → Option (Dat × List MemPlace)} (h : Stays w w' g) (hM : w.ownsMap Try.prog 9 R b n D) (hb : b ≠ g) : w'.ownsMap Try.prog 9 R b n D := by
  have hlt := hM.lt
  obtain ⟨es, clock, hbb, rest⟩ := hM
  exact ⟨es, clock, (h b hlt hb).trans hbb, rest⟩

def pairCells (ps : List (List UInt8 × Int)) : List Value := ps.flatMap fun p => [encStr p.1, .iface 2 (.int .i64 p.2)]
theorem pairCells_at (ps : List (List UInt8 × Int)) (i : Nat) (h : i < ps.length) : (pairCells ps)[i * 2]? = some (encStr ps[i].1) ∧ (pairCells ps)[i * 2 + 1]? = some (.iface 2 (.int .i64 ps[i].2)) := by
  induction ps generalizing i with
  | nil => simp at h
  | cons p r ih =>
    cases i with
    | zero => simp [pairCells]
    | succ i =>
      have := ih i (by simpa using h)
      simp only [pairCells, List.flatMap_cons, List.cons_append, List.nil_append] at this ⊢
      rw [show (i + 1) * 2 = i * 2 + 2 by omega]
      simpa using this

theorem add_plain (g j : Nat) : (⟨g, 0, none⟩ : Addr).add j = ⟨g, j, none⟩ := by unfold Addr.add; split <;> simp_all

theorem members_of {w : World} {B g cap : Nat} {ps : List (List UInt8 × Int)} (h : w.ownsRow B 39 2 (.slice (some ⟨g, 0, none⟩) ps.length cap) ps.length (pairCells ps)) : MembersAt w (.slice (some ⟨g, 0, none⟩) ps.length cap) ps := by
  refine ⟨g, cap, rfl, fun i hi => ?_⟩
  have hc := h.cells (g := g) rfl
  have := pairCells_at ps i hi
  have a1 := hc _ _ this.1
  have a2 := hc _ _ this.2
  rw [add_plain] at a1 a2
  exact ⟨a1, a2⟩

theorem namesRow {w : World} {B : Nat} {v : Value} {D : Dat} {ss : List (List UInt8)} (hS : ss.Perm (strKeys D)) (h : w.ownsRow B 9 1 v ss.length ((ss.mergeSort (fun x y => decide (x ≤ y))).map encStr)) :
    ∃ a cap, v = .slice a (names D).length cap ∧ ∀ i (hi : i < (names D).length), ∃ b, a = some ⟨b, 0, none⟩ ∧ B ≤ b ∧ w.cell? ⟨b, i, none⟩ = some (encStr (names D)[i]) := by
  have e : ss.mergeSort (fun x y => decide (x ≤ y)) = names D := mergeSort_of_perm hS
  have el : ss.length = (names D).length := by rw [← e, List.length_mergeSort]
  rw [e, el] at h
  rcases h.2 with ⟨rfl, h0⟩ | ⟨g, cap, cur, rfl, hb, _⟩
  · exact ⟨none, 0, by rw [h0], fun i hi => by omega⟩
  · refine ⟨_, cap, rfl, fun i hi => ⟨g, rfl, hb, ?_⟩⟩
    have := h.cells (g := g) rfl i (encStr (names D)[i]) (by simp [hi])
    rw [add_plain] at this
    exact this

/-- What slices.Sorted handed back: at i the i-th member's name. -/
theorem namesRow' {w : World} {B N : Nat} {v : Value} {D : Dat} {ss : List (List UInt8)} (hS : ss.Perm (strKeys D)) (h : w.ownsRow B 9 1 v ss.length ((ss.mergeSort (fun x y => decide (x ≤ y))).map encStr)) (hO : NamesOK D) (hN : (members D).length = (names D).length ∧ (names D).length = N) :
    ∃ a cap, v = .slice a N cap ∧ ∀ i, i < N → ∃ b x, a = some ⟨b, 0, none⟩ ∧ B ≤ b ∧ w.cell? ⟨b, i, none⟩ = some (encStr x) ∧ (∀ hi : i < (members D).length, (members D)[i] = (x, valAt D x)) ∧ Maps.has D (.string x) = true ∧ x.length ≤ maxLen := by
  obtain ⟨a, cap, hv, hc⟩ := namesRow hS h
  rw [hN.2] at hv
  refine ⟨a, cap, hv, fun i hi => ?_⟩
  obtain ⟨b, h1, h2, h3⟩ := hc i (by omega)
  exact ⟨b, _, h1, h2, h3, fun hi => by simp [members], hO.has _ (List.getElem_mem _)⟩

theorem Keeps.row {w w' : World} {B e s n : Nat} {v : Value} {xs : List Value} (h : w.ownsRow B e s v n xs) (hk : Keeps w w') : w'.ownsRow B e s v n xs := by
  refine ⟨h.1, ?_⟩
  rcases h.2 with hn | ⟨g, cap, cur, rfl, hb, hg, rest⟩
  · exact .inl hn
  · exact .inr ⟨g, cap, cur, rfl, hb, hk.obj hg, rest⟩
theorem Keeps.map {w w' : World} {b n : Nat} {D : Dat} {R : Value → Option (Dat × List MemPlace)} (h : w.ownsMap Try.prog 9 R b n D) (hk : Keeps w w') : w'.ownsMap Try.prog 9 R b n D := by
  obtain ⟨es, clock, hb, rest⟩ := h
  exact ⟨es, clock, hk.obj hb, rest⟩

theorem pairCells_snoc (D : Dat) {k : Nat} (h : k < (members D).length) : pairCells ((members D).take k) ++ [encStr (members D)[k].1, .iface 2 (.int .i64 (members D)[k].2)] = pairCells ((members D).take (k + 1)) := by
  rw [List.take_succ_eq_append_getElem h, pairCells, pairCells, List.flatMap_append, List.flatMap_singleton]

set_option maxRecDepth 100000 in
set_option maxHeartbeats 4000000 in
theorem form_map (b n : Nat) (D : Dat) (w : World) (hM : w.ownsMap Try.prog 9 anyElem b n D) (hn : n ≤ 65536) :
    Calls Try.prog 9 #[.iface 32 (.map (some b))] w fun e w' => (∃ v, e = .returned (.iface 36 v) ∧ MembersAt w' v (members D)) ∧ Keeps w w' := by
  have hO := names_ok hM
  have hsz := hM.size_le
  have hbl := hM.lt
  have hlen := hM.len Try.underlying32
  have hml : (members D).length = (names D).length := by rw [members, List.length_map]
  obtain ⟨N, hN⟩ : ∃ N, N = Maps.size D := ⟨_, rfl⟩
  have hNn : (names D).length = N := by rw [hO.len, hN]
  have hN6 : N ≤ 65536 := by omega
  rw [← hN] at hlen
  have hmax : Maps.size D ≤ maxLen := by unfold maxLen; omega
  have hbytes : Maps.size D * 16 ≤ 140737488355328 := by omega
  have HB := hide (And.intro hmax hbytes)
  have HNN := hide (And.intro hml hNn)
  clear hmax hbytes hsz hN hml hNn
  have e1 := yes32
  obtain ⟨i39, hi39, hz0, hz1, hz2⟩ := info_parts info39
  go_enter Try.func9, Try.ntmps9
  go_wp2_with (first
    | (at_make; go_must (refine wpList_make_own _ rfl _ _ 36 rfl w.heap.size 39 i39 (.agg #[.string ByteArray.empty, .nilIface]) 2 Try.underlying36 hi39 hz0 hz1 _ _ _ N rfl rfl rfl (by rw [hz2]; omega) (by unfold maxLen; omega) (Nat.le_refl _) ?_); intro w1 hown hgrow; have hM1 := hM.kept hgrow (by simp))
    | (go_at_call 12; refine (callsIn_wide.1 (Try.maps_Keys_12 _ _)).mono ?_; rintro e w' ⟨rfl, rfl⟩)
    | (go_at_call 11; refine (callsIn_wide.1 (Try.slices_Sorted_keys_11_12 b n D anyElem w1 hM1 (unhide HB).1 (unhide HB).2)).mono ?_; rintro e w2 ⟨v, ss, rfl, hS, hrow, hnil, hb⟩; obtain ⟨a, cap, rfl, hcells⟩ := namesRow' hS hrow hO (unhide HNN)))
  have hg1 : w.heap.size < w1.heap.size := (hown.lt _ rfl).2
  have hKw1 : Keeps w w1 := Keeps.grown (Keeps.refl w) hgrow (by simp)
  have hK12 : Keeps w1 w2 := ((Keeps.refl w1).alloc _).trans hb
  have hown2 := hK12.row hown
  have hM2 := hK12.map hM1
  have hK2 := hKw1.trans hK12
  have hB : w.heap.size < (w1.alloc (Obj.cells #[Value.map (some b)] 32)).heap.size := by
    have : (w1.alloc (Obj.cells #[Value.map (some b)] 32)).heap.size = w1.heap.size + 1 := Array.size_push ..
    omega
  have HN2 := hide (unhide HNN)
  clear hown hgrow hM1 hM hb hrow hS hnil hlen HB HNN hO hK12 hKw1 e1
  go_loopg [4, 24] N (fun q m i wr => ∃ k : Nat, k + q = N ∧ i = .int .i64 k ∧ m = .slice (some ⟨w.heap.size, 0, none⟩) k N ∧ wr.ownsRow w.heap.size 39 2 m k (pairCells ((members D).take k)) ∧ Stays w2 wr w.heap.size ∧ w2.heap.size ≤ wr.heap.size ∧ Keeps w wr)
  case atStart => exact ⟨0, Nat.zero_add _, rfl, rfl, hown2, fun _ _ _ => rfl, Nat.le_refl _, hK2⟩
  case round =>
    clear hown2 hK2
    obtain ⟨k, hk, rfl, rfl, hO, hSt, hsz, hK⟩ := hrel
    by_cases hlt : k < N
    · obtain ⟨bb, x, rfl, hbb, hc, hx, hh, hxl⟩ := hcells k hlt
      have hc' := hSt.cell hc (by simp; omega)
      have hlk := any_look (hSt.ownsMap hM2 (Nat.ne_of_lt (by omega))) hxl hh
      have hci : ∀ j u, [encStr x, Value.iface 2 (.int .i64 (valAt D x))][j]? = some u → (wr.alloc (.cells #[encStr x, .iface 2 (.int .i64 (valAt D x))] 39)).cell? ((⟨wr.heap.size, 0, none⟩ : Addr).add j) = some u := fun j u hu => by
        rw [add_plain]
        rcases j with _ | _ | j
        · simp at hu; subst hu; simp [go_sem]
        · simp at hu; subst hu; simp [go_sem]
        · simp at hu
      have HX := hide hx
      clear hx hc hcells
      go_wp2_with (first
        | (go_at_call 9; refine (form_int _ _).mono ?_; rintro e w' ⟨rfl, hw'⟩; rw [hw']; clear hw' w')
        | (at_builtin; go_must (refine wpList_append_fits _ rfl _ _ 36 rfl w.heap.size 39 i39 2 Try.underlying36 hi39 hz1 w.heap.size k N _ rfl (hO.alloc _) ⟨wr.heap.size, 0, none⟩ 1 1 [encStr x, .iface 2 (.int .i64 (valAt D x))] rfl rfl hci (by simp [Value.oneCell']) (by omega) ?_); intro w5 hO5 hg5))
      have hkm : k < (members D).length := by have := unhide HN2; omega
      have hsn := pairCells_snoc D hkm
      rw [unhide HX hkm] at hsn
      have hSz : wr.heap.size ≤ (wr.alloc (.cells #[encStr x, .iface 2 (.int .i64 (valAt D x))] 39)).heap.size := by
        rw [show (wr.alloc (.cells #[encStr x, .iface 2 (.int .i64 (valAt D x))] 39)).heap.size = wr.heap.size + 1 from Array.size_push ..]; omega
      have hS5 : Stays w2 w5 w.heap.size := (hSt.alloc hsz _).grown (by omega) hg5
      have hz5 : w2.heap.size ≤ w5.heap.size := by have := hg5.size; omega
      have hK5 : Keeps w w5 := Keeps.grown (hK.alloc _) hg5 (fun j hj => by cases hj; exact Nat.le_refl _)
      go_roundg (N - (k + 1))
      case rel => exact ⟨k + 1, by omega, by go_num, rfl, by rw [← hsn]; exact hO5, hS5, hz5, hK5⟩
      case measure => omega
    · go_wp2
      go_ret
      obtain rfl : k = N := by omega
      rw [List.take_of_length_le (by have := unhide HN2; omega)] at hO
      have e : (members D).length = k := by have := unhide HN2; omega
      refine ⟨⟨_, rfl, ?_⟩, hK⟩
      have := members_of (ps := members D) (B := w.heap.size) (g := w.heap.size) (cap := k) (w := wr) (by rw [e]; exact hO)
      rw [e] at this
      exact this
end Go.Proofs.Qxb6612559a
