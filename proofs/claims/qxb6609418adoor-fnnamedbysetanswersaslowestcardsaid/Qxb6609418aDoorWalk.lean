import Derived.Test.Qxb6609418aDoorProg
import Derived.Test.Qxb6609418aDoorPlain
import Derived.WalkKit
import Derived.WalkSpells
import Derived.WalkLawsBesides
import Derived.Deep.LoopGhost
import Derived.Deep.OwnRows
namespace Go.Proofs.Qxb6609418aDoor
open Go.RowKit

/-- The table's cells. -/
def tab : List Int := [0, 1, 28, 2, 29, 14, 24, 3, 30, 22, 20, 15, 25, 17, 4, 8, 31, 27, 13, 23, 21, 19, 16, 7, 26, 12, 18, 6, 11, 5, 10, 9]
def TabAt (w : World) : Prop := ∀ i, i < 32 → w.cell? ⟨0, i, none⟩ = some (.int .u8 (tab.getD i 0))

theorem u16_low (x : Nat) (z : Nat) (hx : x < 65536) (hx0 : 0 < x) (h : x &&& (65536 - x) = 2 ^ z) : bits .and .u16 (x : Int) (IntKind.u16.wrap (-(x : Int))) = ((2 ^ z : Nat) : Int) := by
  rw [IntKind.wrap_u16, show (-(x : Int)) % 65536 = ((65536 - x : Nat) : Int) by omega, u16_and_nat x (65536 - x) hx (by omega), h]

set_option maxHeartbeats 1000000 in
theorem tz_any (x z : Nat) (w : World) (hx : x < 65536) (hx0 : 0 < x) (hz : z < 7) (h : x &&& (65536 - x) = 2 ^ z) (ht : TabAt w) :
    Calls Tryd.prog 6 #[.int .u16 x] w fun e w' => e = .returned (.int .i64 z) ∧ w' = w := by
  have hl := u16_low x z hx hx0 h
  have hne : (((x : Nat) : Int) == 0) = false := beq_eq_false_iff_ne.2 (by omega)
  match z, hz with
  | 0, _ =>
    have hb : bits .and .u16 (x : Int) (IntKind.u16.wrap (-(x : Int))) = 1 := hl
    have t0 : w.cell? ⟨0, 0, none⟩ = some (.int .u8 0) := ht 0 (by omega)
    clear h ht hl
    go_enter Tryd.func6, Tryd.ntmps6
    go_wp2
    go_ret
    exact ⟨rfl, rfl⟩
  | 1, _ =>
    have hb : bits .and .u16 (x : Int) (IntKind.u16.wrap (-(x : Int))) = 2 := hl
    have t0 : w.cell? ⟨0, 1, none⟩ = some (.int .u8 1) := ht 1 (by omega)
    clear h ht hl
    go_enter Tryd.func6, Tryd.ntmps6
    go_wp2
    go_ret
    exact ⟨rfl, rfl⟩
  | 2, _ =>
    have hb : bits .and .u16 (x : Int) (IntKind.u16.wrap (-(x : Int))) = 4 := hl
    have t0 : w.cell? ⟨0, 3, none⟩ = some (.int .u8 2) := ht 3 (by omega)
    clear h ht hl
    go_enter Tryd.func6, Tryd.ntmps6
    go_wp2
    go_ret
    exact ⟨rfl, rfl⟩
  | 3, _ =>
    have hb : bits .and .u16 (x : Int) (IntKind.u16.wrap (-(x : Int))) = 8 := hl
    have t0 : w.cell? ⟨0, 7, none⟩ = some (.int .u8 3) := ht 7 (by omega)
    clear h ht hl
    go_enter Tryd.func6, Tryd.ntmps6
    go_wp2
    go_ret
    exact ⟨rfl, rfl⟩
  | 4, _ =>
    have hb : bits .and .u16 (x : Int) (IntKind.u16.wrap (-(x : Int))) = 16 := hl
    have t0 : w.cell? ⟨0, 14, none⟩ = some (.int .u8 4) := ht 14 (by omega)
    clear h ht hl
    go_enter Tryd.func6, Tryd.ntmps6
    go_wp2
    go_ret
    exact ⟨rfl, rfl⟩
  | 5, _ =>
    have hb : bits .and .u16 (x : Int) (IntKind.u16.wrap (-(x : Int))) = 32 := hl
    have t0 : w.cell? ⟨0, 29, none⟩ = some (.int .u8 5) := ht 29 (by omega)
    clear h ht hl
    go_enter Tryd.func6, Tryd.ntmps6
    go_wp2
    go_ret
    exact ⟨rfl, rfl⟩
  | 6, _ =>
    have hb : bits .and .u16 (x : Int) (IntKind.u16.wrap (-(x : Int))) = 64 := hl
    have t0 : w.cell? ⟨0, 27, none⟩ = some (.int .u8 6) := ht 27 (by omega)
    clear h ht hl
    go_enter Tryd.func6, Tryd.ntmps6
    go_wp2
    go_ret
    exact ⟨rfl, rfl⟩
/-- The options: seven directives in the block sb. -/
def cells15 (sb : Nat) (f g : Int) : Array Value := #[.pointer none, .pointer none, .pointer none, .pointer none, .pointer none, .pointer none, .int .u16 f, .int .u16 g, .pointer (some ⟨sb, 0, none⟩), .pointer (some ⟨sb, 5, none⟩), .pointer (some ⟨sb, 10, none⟩), .pointer (some ⟨sb, 15, none⟩), .pointer (some ⟨sb, 20, none⟩), .pointer (some ⟨sb, 25, none⟩), .pointer (some ⟨sb, 30, none⟩)]

theorem TabAt.pos {w : World} (h : TabAt w) : 0 < w.heap.size := by
  have := h 0 (by omega)
  unfold World.cell? at this
  split at this
  · rename_i hb
    exact (Array.getElem?_eq_some_iff.1 hb).1
  · cases this
theorem TabAt.keep {w w' : World} (h : TabAt w) (hb : Below w.heap.size w w') : TabAt w' := fun i hi => by
  rw [hb.cell (p := ⟨0, i, none⟩) h.pos]
  exact h i hi

set_option maxHeartbeats 1000000 in
theorem namedBy_any (sb : Nat) (f g : Int) (x z : Nat) (w : World) (hx : x < 65536) (hx0 : 0 < x) (hz : z < 7) (h : x &&& (65536 - x) = 2 ^ z) (ht : TabAt w) :
    Calls Tryd.prog 5 #[.agg #[.pointer none, .pointer none, .pointer none, .pointer none, .pointer none, .pointer none, .int .u16 f, .int .u16 g, .pointer (some ⟨sb, 0, none⟩), .pointer (some ⟨sb, 5, none⟩), .pointer (some ⟨sb, 10, none⟩), .pointer (some ⟨sb, 15, none⟩), .pointer (some ⟨sb, 20, none⟩), .pointer (some ⟨sb, 25, none⟩), .pointer (some ⟨sb, 30, none⟩)], .int .u16 x] w fun e w' => e = .returned (.pointer (some ⟨sb, z * 5, none⟩)) ∧ Below w.heap.size w w' := by
  have hb : Below w.heap.size w (w.alloc (.cells #[.pointer none, .pointer none, .pointer none, .pointer none, .pointer none, .pointer none, .int .u16 f, .int .u16 g, .pointer (some ⟨sb, 0, none⟩), .pointer (some ⟨sb, 5, none⟩), .pointer (some ⟨sb, 10, none⟩), .pointer (some ⟨sb, 15, none⟩), .pointer (some ⟨sb, 20, none⟩), .pointer (some ⟨sb, 25, none⟩), .pointer (some ⟨sb, 30, none⟩)] 33)) := (Below.refl _ _).alloc (Nat.le_refl _) _
  match z, hz with
  | 0, hz =>
    go_enter Tryd.func5, Tryd.ntmps5
    go_wp2_with fail
    refine (tz_any x 0 _ hx hx0 hz h (ht.keep hb)).mono ?_
    rintro e w' ⟨rfl, rfl⟩
    go_wp2
    go_ret
    exact ⟨rfl, hb⟩
  | 1, hz =>
    go_enter Tryd.func5, Tryd.ntmps5
    go_wp2_with fail
    refine (tz_any x 1 _ hx hx0 hz h (ht.keep hb)).mono ?_
    rintro e w' ⟨rfl, rfl⟩
    go_wp2
    go_ret
    exact ⟨rfl, hb⟩
  | 2, hz =>
    go_enter Tryd.func5, Tryd.ntmps5
    go_wp2_with fail
    refine (tz_any x 2 _ hx hx0 hz h (ht.keep hb)).mono ?_
    rintro e w' ⟨rfl, rfl⟩
    go_wp2
    go_ret
    exact ⟨rfl, hb⟩
  | 3, hz =>
    go_enter Tryd.func5, Tryd.ntmps5
    go_wp2_with fail
    refine (tz_any x 3 _ hx hx0 hz h (ht.keep hb)).mono ?_
    rintro e w' ⟨rfl, rfl⟩
    go_wp2
    go_ret
    exact ⟨rfl, hb⟩
  | 4, hz =>
    go_enter Tryd.func5, Tryd.ntmps5
    go_wp2_with fail
    refine (tz_any x 4 _ hx hx0 hz h (ht.keep hb)).mono ?_
    rintro e w' ⟨rfl, rfl⟩
    go_wp2
    go_ret
    exact ⟨rfl, hb⟩
  | 5, hz =>
    go_enter Tryd.func5, Tryd.ntmps5
    go_wp2_with fail
    refine (tz_any x 5 _ hx hx0 hz h (ht.keep hb)).mono ?_
    rintro e w' ⟨rfl, rfl⟩
    go_wp2
    go_ret
    exact ⟨rfl, hb⟩
  | 6, hz =>
    go_enter Tryd.func5, Tryd.ntmps5
    go_wp2_with fail
    refine (tz_any x 6 _ hx hx0 hz h (ht.keep hb)).mono ?_
    rintro e w' ⟨rfl, rfl⟩
    go_wp2
    go_ret
    exact ⟨rfl, hb⟩
end Go.Proofs.Qxb6609418aDoor
