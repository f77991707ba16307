import Derived.Test.Qxb6612559aOut
namespace Go.Proofs.Qxb6612559a
open Go.RowKit

theorem wrap_id {z : Int} (h1 : -9223372036854775808 ≤ z) (h2 : z ≤ 9223372036854775807) : IntKind.i64.wrap z = z := by
  simp only [IntKind.wrap, IntKind.signed, IntKind.bits]
  simp
  omega

theorem Keeps.drewN {a w : World} (h : Keeps a w) (n : Nat) : Keeps a (w.drewN n) := ⟨h.1, h.2, h.3, h.4, h.5⟩

theorem bytesLess_of : ∀ {x y : List UInt8}, x < y → Op.bytesLess x y = true
  | _, [], h => by cases h
  | [], _ :: _, _ => rfl
  | a :: x, b :: y, h => by
    rw [List.cons_lt_cons_iff] at h
    rcases h with h | ⟨rfl, h⟩
    · simp [Op.bytesLess, h]
    · simp [Op.bytesLess, bytesLess_of h]

/-- The names with their values. -/
def members (D : Dat) : List (List UInt8 × Int) := (names D).map fun x => (x, valAt D x)

set_option maxRecDepth 100000 in
set_option maxHeartbeats 2000000 in
theorem is_any (b n : Nat) (D : Dat) (nv xv : Value) (w : World) (hM : w.ownsMap Try.prog 9 (plainElem Try.prog 2) b n D) (hn : n ≤ 65536)
    (h1 : RowOf w (fun u (p : List UInt8 × Int) => u = encStr p.1) nv (members D)) (h2 : RowOf w (fun u (p : List UInt8 × Int) => u = .int .i64 p.2) xv (members D)) :
    Calls Try.prog 7 #[.map (some b), nv, xv] w fun e w' => e = .returned (.bool true) ∧ Keeps w w' := by
  have hO := names_ok hM
  have hsz := hM.size_le
  have hlen := hM.len Try.underlying25
  obtain ⟨a1, cap1, rfl, _⟩ := h1.shape
  obtain ⟨a2, cap2, rfl, _⟩ := h2.shape
  have hml : (members D).length = Maps.size D := by rw [members, List.length_map, hO.len]
  have hlt' : (members D).length ≤ 65536 := by omega
  obtain ⟨N, hN⟩ : ∃ N, N = (members D).length := ⟨_, rfl⟩
  rw [← hN] at hml hlt'
  rw [← hml] at hlen
  rw [← hN]
  have hmem : ∀ i, i < N → ∃ x, (∀ h : i < (members D).length, (members D)[i] = (x, valAt D x)) ∧ Maps.has D (.string x) = true ∧ x.length ≤ maxLen := fun i hi => by
    have hi' : i < (names D).length := by rw [hO.len]; omega
    exact ⟨(names D)[i], fun _ => by simp [members], hO.has _ (List.getElem_mem hi')⟩
  have hord : ∀ i, i + 1 < N → ∀ x y, (∀ h : i < (members D).length, (members D)[i] = (x, valAt D x)) → (∀ h : i + 1 < (members D).length, (members D)[i + 1] = (y, valAt D y)) → x < y := fun i hi x y h1 h2 => by
    have hi' : i + 1 < (names D).length := by rw [hO.len]; omega
    have e1 := h1 (by omega)
    have e2 := h2 (by omega)
    simp only [members, List.getElem_map, Prod.mk.injEq] at e1 e2
    have := hO.lt i hi'
    rw [e1.1, e2.1] at this
    exact this
  have hN1 : N ≤ (members D).length := by omega
  clear hml hsz hN
  go_enter Try.func7, Try.ntmps7
  go_wp2
  clear hlen
  go_loopg [7] N (fun q i wr => ∃ k : Nat, k + q = N ∧ i = .int .i64 k ∧ wr.heap = w.heap ∧ Keeps w wr)
  case atStart => exact ⟨0, Nat.zero_add _, rfl, rfl, Keeps.refl w⟩
  case round =>
    obtain ⟨k, hk, rfl, hh, hK⟩ := hrel
    have r1 := h1.keep hK
    have r2 := h2.keep hK
    by_cases hlt : k < N
    · obtain ⟨b1, o1, u1, rfl, c1, q1⟩ := r1.at (i := k) (by omega)
      obtain ⟨b2, o2, u2, rfl, c2, q2⟩ := r2.at (i := k) (by omega)
      obtain ⟨x, hx, hxx⟩ := hmem k (by omega)
      rw [hx (by omega)] at q1 q2
      subst q1 q2
      have hlk : ∀ d, (Instr.lookup 25 (.map (some b)) (encStr x) true).run Try.prog (wr.drewN d) = .ok (.tuple #[.int .i64 (valAt D x), .bool true]) (wr.drewN d) := fun d =>
        (last_look (w := wr.drewN d) (by
          obtain ⟨es, clock, hb, rest⟩ := hM
          exact ⟨es, clock, (show wr.heap[b]? = _ by rw [hh]; exact hb), rest⟩) hxx.2 hxx.1).1
      rcases k with _ | m
      · rw [Nat.add_zero] at c1 c2
        clear hN1 hmem hx hO hord
        have hd : decide ((0 : Int) < ((0 : Nat) : Int)) = false := rfl
        go_wp2
        go_quiet (fail)
        go_wp2
        go_roundg (N - (0 + 1))
        case rel => exact ⟨1, by omega, rfl, hh, hK.drewN _⟩
        case measure => omega
      · obtain ⟨b1', o1', u1', e1', c1', q1'⟩ := r1.at (i := m) (by omega)
        cases e1'
        obtain ⟨x', hx', _⟩ := hmem m (by omega)
        have hlx := hord m (by omega) x' x hx' hx
        rw [hx' (by omega)] at q1'
        subst q1'
        have hless : Op.bytesLess x' x = true := bytesLess_of hlx
        clear hlx
        have hwm : IntKind.i64.wrap (m : Int) = (m : Int) := wrap_id (by omega) (by omega)
        have hi0 : (m : Int) < (N : Int) := by omega
        have hi1 : (m : Int) + 1 < (N : Int) := by omega
        clear hN1 hmem hx hx' hO hord
        go_wp2
        go_quiet (fail)
        go_wp2
        go_roundg (N - (m + 1 + 1))
        case rel => exact ⟨m + 1 + 1, by omega, by go_num, hh, hK.drewN _⟩
        case measure => omega
    · clear hN1 hmem hO hord
      go_wp2
      go_ret
      exact ⟨rfl, hK⟩
end Go.Proofs.Qxb6612559a
