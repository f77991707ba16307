import Derived.Test.Qxb6613887aCone
namespace Go.Proofs.Qxb6613887a
open Go.RowKit
open Plain (inN Bfs)

set_option maxRecDepth 100000 in
set_option maxHeartbeats 1000000 in
theorem coneSet_any (v : Value) (cone : List Int) (N : Nat) (w : World) (h : RowI w v cone) (hN : N ≤ 4096) (hd : cone.Nodup) (hr : ∀ y ∈ cone, inN N y) :
    Calls Try.prog 13 #[v, .int .i64 N] w fun e w' => ∃ b, e = .returned (.tuple #[.map (some b), .bool true]) ∧ SetIs w' b cone ∧ Keeps w w' := by
  obtain ⟨a, cap, rfl, _⟩ := h.shape
  have hlen := Plain.nodup_inN hd hr
  have HD := hide hd
  have HR := hide hr
  clear hd hr
  have hmm := @run_makeMap Try.prog
  go_enter Try.func13, Try.ntmps13
  go_wp2
  have hM0 : MapIs (w.alloc (.map #[] 0)) w.heap.size ((cone.take 0).map fun z => (.int .i32 z, .bool true)) := MapIs.made w
  have hK0 : Keeps w (w.alloc (.map #[] 0)) := (Keeps.refl w).alloc _
  clear hmm
  go_loopg [7] cone.length (fun q i wr => ∃ k : Nat, k + q = cone.length ∧ i = .int .i64 k ∧ MapIs wr w.heap.size ((cone.take k).map fun z => (.int .i32 z, .bool true)) ∧ Keeps w wr)
  case atStart => exact ⟨0, Nat.zero_add _, rfl, hM0, hK0⟩
  case round =>
    clear hM0 hK0
    obtain ⟨k, hkq, rfl, hM, hK⟩ := hrel
    have hk : k ≤ cone.length := by omega
    have HJ := hide hkq
    clear hkq
    have hrt : ∀ z ∈ cone.take k, -2147483648 ≤ z ∧ z ≤ 2147483647 := fun z hz => by
      have := (unhide HR) z (List.mem_of_mem_take hz)
      unfold inN at this
      omega
    have HRT := hide hrt
    clear hrt
    by_cases hlt : k < cone.length
    · obtain ⟨b, off, u, rfl, c1, rfl, hz⟩ := (RowI.keep h hK).at hlt
      have hyN := (unhide HR) cone[k] (List.getElem_mem hlt)
      have hdec : decide (0 ≤ cone[k] ∧ cone[k] < (N : Int)) = true := decide_eq_true hyN
      have hno : cone[k] ∉ cone.take k := fun hm => by
        obtain ⟨j, hj, e⟩ := List.getElem_of_mem hm
        rw [List.getElem_take] at e
        have hj' : j < k := by simp at hj; omega
        have := (List.getElem_inj (unhide HD)).1 e
        omega
      have hlk : (Instr.lookup 40 (.map (some w.heap.size)) (.int .i32 cone[k]) false).run Try.prog wr = .ok (.bool false) wr := by
        have h1 := (show SetIs wr w.heap.size (cone.take k) from ⟨hM, unhide HRT⟩).look hz
        have h2 : (cone.take k).contains cone[k] = false := by simpa using hno
        rw [h2] at h1
        exact h1
      have HNO := hide (show ∀ p ∈ (cone.take k).map (fun z => ((.int .i32 z : Value), (.bool true : Value))), p.1 ≠ .int .i32 cone[k] from fun p hp e => by
        obtain ⟨z, hz, rfl⟩ := List.mem_map.1 hp
        simp at e
        subst e
        exact hno hz)
      have HT := hide (List.take_succ_eq_append_getElem hlt)
      clear hyN hno
      go_wp2_with (first
        | (go_at_call 8; refine (inRange_any _ _ _ hz.1 hz.2).mono ?_; rw [hdec]; rintro e w' ⟨rfl, rfl⟩)
        | (at_mapUpdate; go_must (refine wpList_store_new rfl _ _ _ 40 rfl i32Keyed Try.underlying40 w.heap.size ((cone.take k).map fun z => (.int .i32 z, .bool true)) rfl hM (SetIs.keys (unhide HRT)) (.int .i32 cone[k]) (.bool true) rfl rfl _ (key_i32 hz) (unhide HNO) ?_); intro w1 hM1 hg1))
      go_roundg (cone.length - (k + 1))
      case rel => exact ⟨k + 1, by omega, by go_num, by rw [unhide HT, List.map_append]; exact hM1, Keeps.grown hK hg1 (fun j hj => by cases hj; exact Nat.le_refl _)⟩
      case measure => have := unhide HJ; omega
    · have hfin : SetIs wr w.heap.size cone := by
        rw [List.take_of_length_le (by omega)] at hM
        refine ⟨hM, fun z hz => ?_⟩
        have := (unhide HR) z hz
        unfold inN at this
        omega
      go_wp2
      go_ret2
      exact ⟨_, rfl, hfin, hK⟩
end Go.Proofs.Qxb6613887a
