import Derived.Test.Qxb6612559aSorted
import Derived.Laws.CopyOwn
namespace Go.Proofs.Qxb6612559a
open Go.RowKit

/-- What function 6 hands back. -/
def OutSays (e : Ending) (w' : World) (D : Dat) : Prop := ∃ n x, e = .returned (.tuple #[n, x, .bool true]) ∧ RowOf w' (fun u (p : List UInt8 × Int) => u = encStr p.1) n (members D) ∧ RowOf w' (fun u (p : List UInt8 × Int) => u = .int .i64 p.2) x (members D)

set_option maxRecDepth 100000 in
set_option maxHeartbeats 400000 in
theorem obj6_any (v0 v1 : Value) (ks : List ByteArray) (zs : List Int) (w : World) (D : Dat) (hD : datOf ks zs ks.length = D) (h0 : RowOf w IsStr v0 ks) (h1 : RowOf w IsI64 v1 zs) (hl : ks.length = zs.length) (hs : ks.length ≤ 65536) :
    Calls Try.prog 6 #[v0, v1] w fun e w' => OutSays e w' D ∧ Keeps w w' := by
  have hobj := obj_any v0 v1 ks zs w h0 h1 hl hs
  rw [hD] at hobj
  clear hl hD h0 h1
  go_enter Try.func6, Try.ntmps6
  go_wp2_with fail
  refine hobj.mono ?_
  rintro e w1 ⟨⟨b, rfl, hM, _⟩, hK1⟩
  have hml : (members D).length ≤ 65536 := by
    rw [members, List.length_map, (names_ok hM).len]
    have := hM.size_le
    omega
  have hf := form_map b ks.length D w1 hM hs
  clear hobj hM
  go_wp2_with fail
  refine hf.mono ?_
  rintro e w2 ⟨⟨v, rfl, hv⟩, hK2⟩
  have ho := out_any v (members D) w2 hv hml
  clear hf hv hml
  go_wp2_with fail
  refine ho.mono ?_
  rintro e w3 ⟨⟨nv, xv, rfl, hn, hx⟩, hK3⟩
  have hO : OutSays (.returned (.tuple #[nv, xv, .bool true])) w3 D := ⟨_, _, rfl, hn, hx⟩
  clear ho hn hx
  go_wp2_with fail
  go_ret3
  exact ⟨hO, (hK1.trans hK2).trans hK3⟩
end Go.Proofs.Qxb6612559a
