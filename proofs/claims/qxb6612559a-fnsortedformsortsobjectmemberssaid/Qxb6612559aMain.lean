import Derived.Test.Qxb6612559aCopy
namespace Go.Proofs.Qxb6612559a
open Go.RowKit


/-- What the law hands back: true, and old memory is as it was. -/
def Done (w : World) (e : Ending) (w' : World) : Prop := e = .returned (.bool true) ∧ Keeps w w'

/-- What the map of the last values is. -/
def LastSays (w : World) (n : Nat) (D : Dat) (e : Ending) (w' : World) : Prop := (∃ b, e = .returned (.map (some b)) ∧ w'.ownsMap Try.prog 9 (plainElem Try.prog 2) b n D ∧ w.heap.size ≤ b) ∧ Keeps w w'

theorem ownsMap_keep {w w' : World} {b n : Nat} {D : Dat} (h : w.ownsMap Try.prog 9 (plainElem Try.prog 2) b n D) (hK : Keeps w w') : w'.ownsMap Try.prog 9 (plainElem Try.prog 2) b n D := by
  obtain ⟨es, clock, hb, rest⟩ := h
  exact ⟨es, clock, hK.obj hb, rest⟩

set_option maxRecDepth 100000 in
set_option maxHeartbeats 1000000 in
theorem main_some_some (ad0 : Addr) (ad1 : Addr) (cap0 cap1 : Nat) (ks : List ByteArray) (zs : List Int) (w : World) (h0 : RowOf w IsStr (.slice (some ad0) ks.length cap0) ks) (h1 : RowOf w IsI64 (.slice (some ad1) zs.length cap1) zs) :
    Calls Try.prog 3 #[(.slice (some ad0) ks.length cap0), (.slice (some ad1) zs.length cap1)] w (Done w) := by
  have hm0 := h0.1
  have hm1 := h1.1
  unfold maxLen at hm0 hm1
  have hby := bytes_any _ _ ks zs w h0 h1
  go_enter Try.func3, Try.ntmps3
  go_wp2_with fail
  refine hby.mono ?_
  rintro e w' ⟨⟨r, rfl, _⟩, hw'⟩
  rw [hw']
  clear hw' hby w'
  cases r
  · go_wp2_with fail
    go_ret
    exact ⟨rfl, Keeps.refl _⟩
  by_cases hz : ks.length ≤ 65536 ∧ zs.length ≤ 65536
  case neg =>
    go_wp2_with fail
    all_goals (go_ret; exact ⟨rfl, Keeps.refl _⟩)
  obtain ⟨hz0, hz1⟩ := hz
  have hmk9 := run_make_row' (P := Try.prog) 22 9 (.string ByteArray.empty) 16 Try.underlying22 info9 rfl .i64 .i64 ks.length (by omega) (by omega)
  have hmk2 := run_make_row' (P := Try.prog) 23 2 (.int .i64 0) 8 Try.underlying23 info2 rfl .i64 .i64 zs.length (by omega) (by omega)
  obtain ⟨w2, hc2, r0, hK2⟩ := copy_row (z := .string ByteArray.empty) (e := 9) (t := 22) h0 Try.underlying22 (by kernel_rfl) (fun u x h => by obtain ⟨rfl, _⟩ := h; rfl) 3
  obtain ⟨w3, hc3, r1, hK3⟩ := copy_row (z := .int .i64 0) (e := 2) (t := 23) (h1.keep hK2) Try.underlying23 (by kernel_rfl) (fun u x h => by obtain ⟨rfl, _⟩ := h; rfl) 3
  replace r0 := r0.keep hK3
  have hK := hK2.trans hK3
  clear hK2 hK3 h0 h1 hm0 hm1
  go_wp2_with fail
  · go_ret
    exact ⟨rfl, hK⟩
  clear hmk9 hc2 hmk2 hc3
  go_loop [7, 8] (fun t i => ∃ (k : Nat) (z : Int), k ≤ ks.length ∧ i = .int .i64 k ∧ t = .int .i64 z) (fun _ i => ks.length - (intOf i).toNat)
  case atStart => exact ⟨0, _, Nat.zero_le _, rfl, rfl⟩
  case round =>
    obtain ⟨k, z, hk, rfl, rfl⟩ := hrel
    by_cases hlt : k < ks.length
    · obtain ⟨b0, off0, x0, he, d0, ⟨rfl, s0⟩⟩ := r0.at hlt
      cases he
      rw [Nat.zero_add] at d0
      unfold maxLen at s0
      go_wp2
      any_goals (go_ret; exact ⟨rfl, hK⟩)
      case roundEnd => exact ⟨⟨k + 1, _, by omega, by go_num, rfl⟩, by simp [intOf]; omega⟩
    · clear hk
      by_cases hl : ks.length = zs.length
      case neg =>
        go_wp2
        all_goals (go_ret; exact ⟨rfl, hK⟩)
      obtain ⟨D, hD⟩ : ∃ D, datOf ks zs ks.length = D := ⟨_, rfl⟩
      have hlast := last_any _ _ ks zs w3 r0 r1 hl hz0
      rw [hD] at hlast
      replace hlast : Calls Try.prog 5 _ w3 (LastSays w3 ks.length D) := hlast
      have hobj := fun w4 (hK4 : Keeps w3 w4) => obj6_any _ _ ks zs w4 D hD (r0.keep hK4) (r1.keep hK4) hl hz0
      have hl1 : ks.length ≤ zs.length := by omega
      have hl2 : zs.length ≤ ks.length := by omega
      clear hl hD r0 r1
      go_wp2_with fail
      refine hlast.mono ?_
      rintro e w4 ⟨⟨b, rfl, hM, _⟩, hK4⟩
      replace hobj := hobj w4 hK4
      clear hlast
      go_wp2_with fail
      refine hobj.mono ?_
      rintro e w5 ⟨⟨nv, xv, rfl, hn, hx⟩, hK5⟩
      have his := is_any b ks.length D nv xv w5 (ownsMap_keep hM hK5) hz0 hn hx
      clear hobj hM hn hx
      go_wp2_with fail
      refine his.mono ?_
      rintro e w6 ⟨rfl, hK6⟩
      clear his
      go_wp2_with fail
      go_ret
      exact ⟨rfl, ((hK.trans hK4).trans hK5).trans hK6⟩

set_option maxRecDepth 100000 in
set_option maxHeartbeats 1000000 in
theorem main_some_none (ad0 : Addr) (cap0 cap1 : Nat) (ks : List ByteArray) (zs : List Int) (w : World) (h0 : RowOf w IsStr (.slice (some ad0) ks.length cap0) ks) (h1 : RowOf w IsI64 (.slice none zs.length cap1) zs) :
    Calls Try.prog 3 #[(.slice (some ad0) ks.length cap0), (.slice none zs.length cap1)] w (Done w) := by
  have hm0 := h0.1
  have hm1 := h1.1
  unfold maxLen at hm0 hm1
  have hby := bytes_any _ _ ks zs w h0 h1
  go_enter Try.func3, Try.ntmps3
  go_wp2_with fail
  refine hby.mono ?_
  rintro e w' ⟨⟨r, rfl, _⟩, hw'⟩
  rw [hw']
  clear hw' hby w'
  cases r
  · go_wp2_with fail
    go_ret
    exact ⟨rfl, Keeps.refl _⟩
  by_cases hz : ks.length ≤ 65536 ∧ zs.length ≤ 65536
  case neg =>
    go_wp2_with fail
    all_goals (go_ret; exact ⟨rfl, Keeps.refl _⟩)
  obtain ⟨hz0, hz1⟩ := hz
  have hmk9 := run_make_row' (P := Try.prog) 22 9 (.string ByteArray.empty) 16 Try.underlying22 info9 rfl .i64 .i64 ks.length (by omega) (by omega)
  obtain ⟨w2, hc2, r0, hK2⟩ := copy_row (z := .string ByteArray.empty) (e := 9) (t := 22) h0 Try.underlying22 (by kernel_rfl) (fun u x h => by obtain ⟨rfl, _⟩ := h; rfl) 3
  have r1 := h1.keep hK2
  have hK3 : Keeps w2 w2 := Keeps.refl _
  replace r0 := r0.keep hK3
  have hK := hK2.trans hK3
  clear hK2 hK3 h0 h1 hm0 hm1
  go_wp2_with fail
  · go_ret
    exact ⟨rfl, hK⟩
  clear hmk9 hc2 
  go_loop [7, 8] (fun t i => ∃ (k : Nat) (z : Int), k ≤ ks.length ∧ i = .int .i64 k ∧ t = .int .i64 z) (fun _ i => ks.length - (intOf i).toNat)
  case atStart => exact ⟨0, _, Nat.zero_le _, rfl, rfl⟩
  case round =>
    obtain ⟨k, z, hk, rfl, rfl⟩ := hrel
    by_cases hlt : k < ks.length
    · obtain ⟨b0, off0, x0, he, d0, ⟨rfl, s0⟩⟩ := r0.at hlt
      cases he
      rw [Nat.zero_add] at d0
      unfold maxLen at s0
      go_wp2
      any_goals (go_ret; exact ⟨rfl, hK⟩)
      case roundEnd => exact ⟨⟨k + 1, _, by omega, by go_num, rfl⟩, by simp [intOf]; omega⟩
    · clear hk
      by_cases hl : ks.length = zs.length
      case neg =>
        go_wp2
        all_goals (go_ret; exact ⟨rfl, hK⟩)
      obtain ⟨D, hD⟩ : ∃ D, datOf ks zs ks.length = D := ⟨_, rfl⟩
      have hlast := last_any _ _ ks zs w2 r0 r1 hl hz0
      rw [hD] at hlast
      replace hlast : Calls Try.prog 5 _ w2 (LastSays w2 ks.length D) := hlast
      have hobj := fun w4 (hK4 : Keeps w2 w4) => obj6_any _ _ ks zs w4 D hD (r0.keep hK4) (r1.keep hK4) hl hz0
      have hl1 : ks.length ≤ zs.length := by omega
      have hl2 : zs.length ≤ ks.length := by omega
      clear hl hD r0 r1
      go_wp2_with fail
      refine hlast.mono ?_
      rintro e w4 ⟨⟨b, rfl, hM, _⟩, hK4⟩
      replace hobj := hobj w4 hK4
      clear hlast
      go_wp2_with fail
      refine hobj.mono ?_
      rintro e w5 ⟨⟨nv, xv, rfl, hn, hx⟩, hK5⟩
      have his := is_any b ks.length D nv xv w5 (ownsMap_keep hM hK5) hz0 hn hx
      clear hobj hM hn hx
      go_wp2_with fail
      refine his.mono ?_
      rintro e w6 ⟨rfl, hK6⟩
      clear his
      go_wp2_with fail
      go_ret
      exact ⟨rfl, ((hK.trans hK4).trans hK5).trans hK6⟩

set_option maxRecDepth 100000 in
set_option maxHeartbeats 1000000 in
theorem main_none_some (ad1 : Addr) (cap0 cap1 : Nat) (ks : List ByteArray) (zs : List Int) (w : World) (h0 : RowOf w IsStr (.slice none ks.length cap0) ks) (h1 : RowOf w IsI64 (.slice (some ad1) zs.length cap1) zs) :
    Calls Try.prog 3 #[(.slice none ks.length cap0), (.slice (some ad1) zs.length cap1)] w (Done w) := by
  have hm0 := h0.1
  have hm1 := h1.1
  unfold maxLen at hm0 hm1
  have hby := bytes_any _ _ ks zs w h0 h1
  go_enter Try.func3, Try.ntmps3
  go_wp2_with fail
  refine hby.mono ?_
  rintro e w' ⟨⟨r, rfl, _⟩, hw'⟩
  rw [hw']
  clear hw' hby w'
  cases r
  · go_wp2_with fail
    go_ret
    exact ⟨rfl, Keeps.refl _⟩
  by_cases hz : ks.length ≤ 65536 ∧ zs.length ≤ 65536
  case neg =>
    go_wp2_with fail
    all_goals (go_ret; exact ⟨rfl, Keeps.refl _⟩)
  obtain ⟨hz0, hz1⟩ := hz
  have hmk2 := run_make_row' (P := Try.prog) 23 2 (.int .i64 0) 8 Try.underlying23 info2 rfl .i64 .i64 zs.length (by omega) (by omega)
  obtain ⟨w2, hw2⟩ : ∃ w2, w2 = w := ⟨_, rfl⟩
  have hK2 : Keeps w w2 := by rw [hw2]; exact Keeps.refl _
  rw [← hw2]
  clear hw2
  have r0 := h0.keep hK2
  obtain ⟨w3, hc3, r1, hK3⟩ := copy_row (z := .int .i64 0) (e := 2) (t := 23) (h1.keep hK2) Try.underlying23 (by kernel_rfl) (fun u x h => by obtain ⟨rfl, _⟩ := h; rfl) 3
  replace r0 := r0.keep hK3
  have hK := hK2.trans hK3
  clear hK2 hK3 h0 h1 hm0 hm1
  go_wp2_with fail
  · go_ret
    exact ⟨rfl, hK⟩
  clear hmk2 hc3
  go_loop [7, 8] (fun t i => ∃ (k : Nat) (z : Int), k ≤ ks.length ∧ i = .int .i64 k ∧ t = .int .i64 z) (fun _ i => ks.length - (intOf i).toNat)
  case atStart => exact ⟨0, _, Nat.zero_le _, rfl, rfl⟩
  case round =>
    obtain ⟨k, z, hk, rfl, rfl⟩ := hrel
    by_cases hlt : k < ks.length
    · obtain ⟨b0, off0, x0, he, _⟩ := r0.at hlt
      cases he
    · clear hk
      by_cases hl : ks.length = zs.length
      case neg =>
        go_wp2
        all_goals (go_ret; exact ⟨rfl, hK⟩)
      obtain ⟨D, hD⟩ : ∃ D, datOf ks zs ks.length = D := ⟨_, rfl⟩
      have hlast := last_any _ _ ks zs w3 r0 r1 hl hz0
      rw [hD] at hlast
      replace hlast : Calls Try.prog 5 _ w3 (LastSays w3 ks.length D) := hlast
      have hobj := fun w4 (hK4 : Keeps w3 w4) => obj6_any _ _ ks zs w4 D hD (r0.keep hK4) (r1.keep hK4) hl hz0
      have hl1 : ks.length ≤ zs.length := by omega
      have hl2 : zs.length ≤ ks.length := by omega
      clear hl hD r0 r1
      go_wp2_with fail
      refine hlast.mono ?_
      rintro e w4 ⟨⟨b, rfl, hM, _⟩, hK4⟩
      replace hobj := hobj w4 hK4
      clear hlast
      go_wp2_with fail
      refine hobj.mono ?_
      rintro e w5 ⟨⟨nv, xv, rfl, hn, hx⟩, hK5⟩
      have his := is_any b ks.length D nv xv w5 (ownsMap_keep hM hK5) hz0 hn hx
      clear hobj hM hn hx
      go_wp2_with fail
      refine his.mono ?_
      rintro e w6 ⟨rfl, hK6⟩
      clear his
      go_wp2_with fail
      go_ret
      exact ⟨rfl, ((hK.trans hK4).trans hK5).trans hK6⟩

set_option maxRecDepth 100000 in
set_option maxHeartbeats 1000000 in
theorem main_none_none (cap0 cap1 : Nat) (ks : List ByteArray) (zs : List Int) (w : World) (h0 : RowOf w IsStr (.slice none ks.length cap0) ks) (h1 : RowOf w IsI64 (.slice none zs.length cap1) zs) :
    Calls Try.prog 3 #[(.slice none ks.length cap0), (.slice none zs.length cap1)] w (Done w) := by
  have hm0 := h0.1
  have hm1 := h1.1
  unfold maxLen at hm0 hm1
  have hby := bytes_any _ _ ks zs w h0 h1
  go_enter Try.func3, Try.ntmps3
  go_wp2_with fail
  refine hby.mono ?_
  rintro e w' ⟨⟨r, rfl, _⟩, hw'⟩
  rw [hw']
  clear hw' hby w'
  cases r
  · go_wp2_with fail
    go_ret
    exact ⟨rfl, Keeps.refl _⟩
  by_cases hz : ks.length ≤ 65536 ∧ zs.length ≤ 65536
  case neg =>
    go_wp2_with fail
    all_goals (go_ret; exact ⟨rfl, Keeps.refl _⟩)
  obtain ⟨hz0, hz1⟩ := hz
  obtain ⟨w2, hw2⟩ : ∃ w2, w2 = w := ⟨_, rfl⟩
  have hK2 : Keeps w w2 := by rw [hw2]; exact Keeps.refl _
  rw [← hw2]
  clear hw2
  have r0 := h0.keep hK2
  have r1 := h1.keep hK2
  have hK3 : Keeps w2 w2 := Keeps.refl _
  replace r0 := r0.keep hK3
  have hK := hK2.trans hK3
  clear hK2 hK3 h0 h1 hm0 hm1
  go_wp2_with fail
  · go_ret
    exact ⟨rfl, hK⟩
  go_loop [7, 8] (fun t i => ∃ (k : Nat) (z : Int), k ≤ ks.length ∧ i = .int .i64 k ∧ t = .int .i64 z) (fun _ i => ks.length - (intOf i).toNat)
  case atStart => exact ⟨0, _, Nat.zero_le _, rfl, rfl⟩
  case round =>
    obtain ⟨k, z, hk, rfl, rfl⟩ := hrel
    by_cases hlt : k < ks.length
    · obtain ⟨b0, off0, x0, he, _⟩ := r0.at hlt
      cases he
    · clear hk
      by_cases hl : ks.length = zs.length
      case neg =>
        go_wp2
        all_goals (go_ret; exact ⟨rfl, hK⟩)
      obtain ⟨D, hD⟩ : ∃ D, datOf ks zs ks.length = D := ⟨_, rfl⟩
      have hlast := last_any _ _ ks zs w2 r0 r1 hl hz0
      rw [hD] at hlast
      replace hlast : Calls Try.prog 5 _ w2 (LastSays w2 ks.length D) := hlast
      have hobj := fun w4 (hK4 : Keeps w2 w4) => obj6_any _ _ ks zs w4 D hD (r0.keep hK4) (r1.keep hK4) hl hz0
      have hl1 : ks.length ≤ zs.length := by omega
      have hl2 : zs.length ≤ ks.length := by omega
      clear hl hD r0 r1
      go_wp2_with fail
      refine hlast.mono ?_
      rintro e w4 ⟨⟨b, rfl, hM, _⟩, hK4⟩
      replace hobj := hobj w4 hK4
      clear hlast
      go_wp2_with fail
      refine hobj.mono ?_
      rintro e w5 ⟨⟨nv, xv, rfl, hn, hx⟩, hK5⟩
      have his := is_any b ks.length D nv xv w5 (ownsMap_keep hM hK5) hz0 hn hx
      clear hobj hM hn hx
      go_wp2_with fail
      refine his.mono ?_
      rintro e w6 ⟨rfl, hK6⟩
      clear his
      go_wp2_with fail
      go_ret
      exact ⟨rfl, ((hK.trans hK4).trans hK5).trans hK6⟩

theorem main_any (v0 v1 : Value) (ks : List ByteArray) (zs : List Int) (w : World) (h0 : RowOf w IsStr v0 ks) (h1 : RowOf w IsI64 v1 zs) : Calls Try.prog 3 #[v0, v1] w (Done w) := by
  obtain ⟨a0, cap0, rfl, _⟩ := h0.shape
  obtain ⟨a1, cap1, rfl, _⟩ := h1.shape
  rcases a0 with _ | a0 <;> rcases a1 with _ | a1
  · exact main_none_none _ _ ks zs w h0 h1
  · exact main_none_some _ _ _ ks zs w h0 h1
  · exact main_some_none _ _ _ ks zs w h0 h1
  · exact main_some_some _ _ _ _ ks zs w h0 h1
end Go.Proofs.Qxb6612559a
