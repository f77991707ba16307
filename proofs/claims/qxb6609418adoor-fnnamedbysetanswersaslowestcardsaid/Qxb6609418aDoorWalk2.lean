import Derived.Test.Qxb6609418aDoorWalk
import Derived.LaidEqlPtr
namespace Go.Proofs.Qxb6609418aDoor
open Go.RowKit

theorem hide {p : Prop} (h : p) : Hid p := h
theorem unhide {p : Prop} (h : Hid p) : p := h

/-- A block of so many cells, none frozen. -/
def Room (w : World) (b : Nat) (t : TypeId) (m : Nat) : Prop := ∃ cur : Array Value, w.heap[b]? = some (.cells cur t (0, 0)) ∧ cur.size = m
theorem Room.cell {w : World} {b m : Nat} {t : TypeId} (h : Room w b t m) {i : Nat} (hi : i < m) : ∃ v, w.cell? ⟨b, i, none⟩ = some v := by
  obtain ⟨cur, h1, h2⟩ := h
  have : i < cur.size := by omega
  exact ⟨cur[i], by simp [World.cell?, h1, this]⟩
theorem Room.frozen {w : World} {b m : Nat} {t : TypeId} (h : Room w b t m) (i : Nat) : w.frozen? ⟨b, i, none⟩ = false := by
  obtain ⟨cur, h1, h2⟩ := h
  simp [World.frozen?, h1]
theorem Room.lt {w : World} {b m : Nat} {t : TypeId} (h : Room w b t m) : b < w.heap.size := by
  obtain ⟨cur, h1, h2⟩ := h
  exact (Array.getElem?_eq_some_iff.1 h1).1
theorem Room.alloc {w : World} {b m : Nat} {t : TypeId} (h : Room w b t m) (o : Obj) : Room (w.alloc o) b t m := by
  have hl := h.lt
  obtain ⟨cur, h1, h2⟩ := h
  exact ⟨cur, by rw [Below.heap_alloc _ _ _ hl]; exact h1, h2⟩
theorem Room.set {w : World} {b m : Nat} {t : TypeId} (h : Room w b t m) (i : Nat) (v : Value) : Room (w.setCell ⟨b, i, none⟩ v) b t m := by
  obtain ⟨cur, h1, h2⟩ := h
  exact ⟨cur.setIfInBounds i v, by simp [World.setCell, Array.getElem?_modify, h1], by simpa using h2⟩
theorem Room.other {w : World} {b m : Nat} {t : TypeId} (h : Room w b t m) {p : Addr} (hp : b ≠ p.block) (v : Value) : Room (w.setCell p v) b t m := by
  obtain ⟨cur, h1, h2⟩ := h
  exact ⟨cur, by rw [Below.heap_setCell _ _ _ _ hp]; exact h1, h2⟩

set_option maxHeartbeats 1000000 in
theorem newPlace_any (sb : Nat) (f g : Int) (w : World) :
    Calls Tryd.prog 4 #[.int .u16 f, .int .u16 g, .agg #[.pointer (some ⟨sb, 0, none⟩), .pointer (some ⟨sb, 5, none⟩), .pointer (some ⟨sb, 10, none⟩), .pointer (some ⟨sb, 15, none⟩), .pointer (some ⟨sb, 20, none⟩), .pointer (some ⟨sb, 25, none⟩), .pointer (some ⟨sb, 30, none⟩)]] w fun e w' => e = .returned (.agg #[.pointer none, .pointer none, .pointer none, .pointer none, .pointer none, .pointer none, .int .u16 f, .int .u16 g, .pointer (some ⟨sb, 0, none⟩), .pointer (some ⟨sb, 5, none⟩), .pointer (some ⟨sb, 10, none⟩), .pointer (some ⟨sb, 15, none⟩), .pointer (some ⟨sb, 20, none⟩), .pointer (some ⟨sb, 25, none⟩), .pointer (some ⟨sb, 30, none⟩)]) ∧ Below w.heap.size w w' := by
  go_enter Tryd.func4, Tryd.ntmps4
  go_wp2
  exact bodyPost_ret (v := .agg #[.pointer none, .pointer none, .pointer none, .pointer none, .pointer none, .pointer none, .int .u16 f, .int .u16 g, .pointer (some ⟨sb, 0, none⟩), .pointer (some ⟨sb, 5, none⟩), .pointer (some ⟨sb, 10, none⟩), .pointer (some ⟨sb, 15, none⟩), .pointer (some ⟨sb, 20, none⟩), .pointer (some ⟨sb, 25, none⟩), .pointer (some ⟨sb, 30, none⟩)]) (by simp [results, Tryd.results4, go_sem]) rfl ⟨rfl, ((Below.refl _ _).alloc (Nat.le_refl _) _).alloc (by simp) _⟩

/-- The options lie in block b. -/
def P15 (w : World) (b sb : Nat) (f g : Int) : Prop := w.cell? ⟨b, 0, none⟩ = some (.pointer none) ∧ w.cell? ⟨b, 1, none⟩ = some (.pointer none) ∧ w.cell? ⟨b, 2, none⟩ = some (.pointer none) ∧ w.cell? ⟨b, 3, none⟩ = some (.pointer none) ∧ w.cell? ⟨b, 4, none⟩ = some (.pointer none) ∧ w.cell? ⟨b, 5, none⟩ = some (.pointer none) ∧ w.cell? ⟨b, 6, none⟩ = some (.int .u16 f) ∧ w.cell? ⟨b, 7, none⟩ = some (.int .u16 g) ∧ w.cell? ⟨b, 8, none⟩ = some (.pointer (some ⟨sb, 0, none⟩)) ∧ w.cell? ⟨b, 9, none⟩ = some (.pointer (some ⟨sb, 5, none⟩)) ∧ w.cell? ⟨b, 10, none⟩ = some (.pointer (some ⟨sb, 10, none⟩)) ∧ w.cell? ⟨b, 11, none⟩ = some (.pointer (some ⟨sb, 15, none⟩)) ∧ w.cell? ⟨b, 12, none⟩ = some (.pointer (some ⟨sb, 20, none⟩)) ∧ w.cell? ⟨b, 13, none⟩ = some (.pointer (some ⟨sb, 25, none⟩)) ∧ w.cell? ⟨b, 14, none⟩ = some (.pointer (some ⟨sb, 30, none⟩))
theorem P15.keep {w w' : World} {b sb : Nat} {f g : Int} (h : P15 w b sb f g) (hb : Below w.heap.size w w') (hl : b < w.heap.size) : P15 w' b sb f g := by
  have hk : ∀ {i : Nat} {v : Value}, w.cell? ⟨b, i, none⟩ = some v → w'.cell? ⟨b, i, none⟩ = some v := fun {i v} h => by rw [hb.cell (p := ⟨b, i, none⟩) hl]; exact h
  obtain ⟨q0, q1, q2, q3, q4, q5, q6, q7, q8, q9, q10, q11, q12, q13, q14⟩ := h
  exact ⟨hk q0, hk q1, hk q2, hk q3, hk q4, hk q5, hk q6, hk q7, hk q8, hk q9, hk q10, hk q11, hk q12, hk q13, hk q14⟩
theorem P15.mk (w : World) (sb : Nat) (f g : Int) : P15 (w.alloc (.cells #[.pointer none, .pointer none, .pointer none, .pointer none, .pointer none, .pointer none, .int .u16 f, .int .u16 g, .pointer (some ⟨sb, 0, none⟩), .pointer (some ⟨sb, 5, none⟩), .pointer (some ⟨sb, 10, none⟩), .pointer (some ⟨sb, 15, none⟩), .pointer (some ⟨sb, 20, none⟩), .pointer (some ⟨sb, 25, none⟩), .pointer (some ⟨sb, 30, none⟩)] 33)) w.heap.size sb f g := by
  unfold P15
  simp [go_sem]

theorem xor_all (o : Nat) (ho : o < 65536) : 65535 ^^^ o = 65535 - o := by
  apply Nat.eq_of_testBit_eq
  intro i
  rw [Nat.testBit_xor, show 65535 - o = 2 ^ 16 - (o + 1) by omega, Nat.testBit_two_pow_sub_succ ho, show (65535 : Nat) = 2 ^ 16 - 1 by rfl, Nat.testBit_two_pow_sub_one]
  by_cases hi : i < 16
  · simp [hi]
  · have : o.testBit i = false := Nat.testBit_lt_two_pow (Nat.lt_of_lt_of_le ho (by have := Nat.pow_le_pow_right (show 2 > 0 by omega) (Nat.le_of_not_lt hi); simpa using this))
    simp [hi, this]
theorem low_val (o z : Nat) (ho : o < 65536) (ho0 : 0 < o) (h : o &&& (65536 - o) = 2 ^ z) : bits .and .u16 (o : Int) (IntKind.u16.wrap (bits .xor .u16 IntKind.u16.max (o : Int) + 1)) = ((2 ^ z : Nat) : Int) := by
  have hx : bits .xor .u16 IntKind.u16.max (o : Int) = ((65535 ^^^ o : Nat) : Int) := u16_xor_nat 65535 o (by omega) ho
  rw [hx, xor_all o ho, IntKind.wrap_u16, show (((65535 - o : Nat) : Int) + 1) % 65536 = ((65536 - o : Nat) : Int) by omega, u16_and_nat o (65536 - o) ho (by omega), h]

theorem Room.keep {w w' : World} {b m : Nat} {t : TypeId} (h : Room w b t m) (hb : Below w.heap.size w w') : Room w' b t m := by
  have hl := h.lt
  obtain ⟨cur, h1, h2⟩ := h
  exact ⟨cur, by rw [hb.block b hl]; exact h1, h2⟩
theorem info26 : (Tryd.prog.info? 26).map (fun i => (i.zero, i.size, i.bytes)) = some (some (.agg #[.string ByteArray.empty, .slice none 0 0, .string ByteArray.empty, .int .i64 0, .pointer none]), 5, 72) := by kernel_rfl
theorem eql24_same (a : Addr) (w : World) : (binOp .eql 24 (.pointer (some a)) (.pointer (some a))).run Tryd.prog w = .ok (.bool true) w := by
  obtain ⟨i, hi, _⟩ := info_parts info26
  exact run_eql_ptr_same w a Tryd.underlying24 hi
theorem neq24_same (a : Addr) (w : World) : (binOp .neq 24 (.pointer (some a)) (.pointer (some a))).run Tryd.prog w = .ok (.bool false) w := by
  obtain ⟨i, hi, _⟩ := info_parts info26
  have h : ∀ d : Nat, (Op.equalIn (d + 1) 24 (.pointer (some a)) (.pointer (some a))).run Tryd.prog w = .ok true w := fun d => by
    simp [Op.equalIn, run_underlying Tryd.underlying24, sizeOf, typeInfo, hi, run_sameAddr_same]
  simp only [binOp]
  simp [Op.equal, Op.maxDepth, h 9999]
theorem eql24_other {sb x y : Nat} {t : TypeId} {m : Nat} (hne : x ≠ y) (w : World) (h : Room w sb t m) : (binOp .eql 24 (.pointer (some ⟨sb, x, none⟩)) (.pointer (some ⟨sb, y, none⟩))).run Tryd.prog w = .ok (.bool false) w := by
  obtain ⟨i, hi, _, hs, _⟩ := info_parts info26
  obtain ⟨cur, h1, _⟩ := h
  exact run_eql_ptr_other w Tryd.underlying24 hi (by omega) (by intro e; cases e; exact hne rfl) h1 h1

/-- Has the k-th round met the one? -/
def hit (z k : Nat) : Int := if z < k then 1 else 0

/-- What the row of pointers holds behind k rounds. -/
def ptrK (sb k : Nat) (j : Nat) : Value := if j < k then .pointer (some ⟨sb, j * 5, none⟩) else .pointer none

set_option maxRecDepth 100000 in
set_option maxHeartbeats 2000000 in
theorem law_any (o : Nat) (f g : Int) (w : World) (ho : o < 65536) (ht : TabAt w) :
    Calls Tryd.prog 3 #[.int .u16 o, .int .u16 f, .int .u16 g] w fun e w' => e = .returned (.bool true) ∧ Below w.heap.size w w' := by
  have hand : bits .and .u16 (o : Int) 127 = ((o &&& 127 : Nat) : Int) := u16_and_nat o 127 ho (by omega)
  by_cases h0 : o &&& 127 = 0
  · have hb : (bits .and .u16 (o : Int) 127 == 0) = true := by rw [hand, h0]; rfl
    clear hand h0
    go_enter Tryd.func3, Tryd.ntmps3
    go_wp2
    go_ret
    exact ⟨rfl, Below.refl _ _⟩
  have hb : (bits .and .u16 (o : Int) 127 == 0) = false := by rw [hand]; exact beq_eq_false_iff_ne.2 (by omega)
  obtain ⟨z, hz, hlow⟩ := Plain.low_exists o ho h0
  clear hand h0
  go_enter Tryd.func3, Tryd.ntmps3
  go_wp2
  have hR0 : Room ((w.alloc (.cells #[.string ⟨#[]⟩, .slice none 0 0, .string ⟨#[]⟩, .int .i64 0, .pointer none, .string ⟨#[]⟩, .slice none 0 0, .string ⟨#[]⟩, .int .i64 0, .pointer none, .string ⟨#[]⟩, .slice none 0 0, .string ⟨#[]⟩, .int .i64 0, .pointer none, .string ⟨#[]⟩, .slice none 0 0, .string ⟨#[]⟩, .int .i64 0, .pointer none, .string ⟨#[]⟩, .slice none 0 0, .string ⟨#[]⟩, .int .i64 0, .pointer none, .string ⟨#[]⟩, .slice none 0 0, .string ⟨#[]⟩, .int .i64 0, .pointer none, .string ⟨#[]⟩, .slice none 0 0, .string ⟨#[]⟩, .int .i64 0, .pointer none] 27)).alloc (.cells #[.pointer none, .pointer none, .pointer none, .pointer none, .pointer none, .pointer none, .pointer none] 28)) w.heap.size 27 35 :=
    Room.alloc ⟨_, (MapKept.heap_alloc w _).1, rfl⟩ _
  have hP0 : ((w.alloc (.cells #[.string ⟨#[]⟩, .slice none 0 0, .string ⟨#[]⟩, .int .i64 0, .pointer none, .string ⟨#[]⟩, .slice none 0 0, .string ⟨#[]⟩, .int .i64 0, .pointer none, .string ⟨#[]⟩, .slice none 0 0, .string ⟨#[]⟩, .int .i64 0, .pointer none, .string ⟨#[]⟩, .slice none 0 0, .string ⟨#[]⟩, .int .i64 0, .pointer none, .string ⟨#[]⟩, .slice none 0 0, .string ⟨#[]⟩, .int .i64 0, .pointer none, .string ⟨#[]⟩, .slice none 0 0, .string ⟨#[]⟩, .int .i64 0, .pointer none, .string ⟨#[]⟩, .slice none 0 0, .string ⟨#[]⟩, .int .i64 0, .pointer none] 27)).alloc (.cells #[.pointer none, .pointer none, .pointer none, .pointer none, .pointer none, .pointer none, .pointer none] 28)).rowIs (w.heap.size + 1) 28 7 (ptrK w.heap.size 0) := by
    refine ⟨#[.pointer none, .pointer none, .pointer none, .pointer none, .pointer none, .pointer none, .pointer none], ?_, rfl, ?_⟩
    · have := (MapKept.heap_alloc (w.alloc (.cells #[.string ⟨#[]⟩, .slice none 0 0, .string ⟨#[]⟩, .int .i64 0, .pointer none, .string ⟨#[]⟩, .slice none 0 0, .string ⟨#[]⟩, .int .i64 0, .pointer none, .string ⟨#[]⟩, .slice none 0 0, .string ⟨#[]⟩, .int .i64 0, .pointer none, .string ⟨#[]⟩, .slice none 0 0, .string ⟨#[]⟩, .int .i64 0, .pointer none, .string ⟨#[]⟩, .slice none 0 0, .string ⟨#[]⟩, .int .i64 0, .pointer none, .string ⟨#[]⟩, .slice none 0 0, .string ⟨#[]⟩, .int .i64 0, .pointer none, .string ⟨#[]⟩, .slice none 0 0, .string ⟨#[]⟩, .int .i64 0, .pointer none] 27)) (.cells #[.pointer none, .pointer none, .pointer none, .pointer none, .pointer none, .pointer none, .pointer none] 28)).1
      simpa using this
    · intro i hi
      match i, hi with
      | 0, _ | 1, _ | 2, _ | 3, _ | 4, _ | 5, _ | 6, _ => rfl
  go_loopg [9] 7 (fun q i wr => ∃ k : Nat, k + q = 7 ∧ i = .int .i64 k ∧ Room wr w.heap.size 27 35 ∧ wr.rowIs (w.heap.size + 1) 28 7 (ptrK w.heap.size k) ∧ Below w.heap.size w wr)
  case atStart => exact ⟨0, rfl, rfl, hR0, hP0, ((Below.refl _ _).alloc (Nat.le_refl _) _).alloc (by simp) _⟩
  case round =>
    clear hR0 hP0
    obtain ⟨k, hkq, rfl, hR, hP, hB⟩ := hrel
    have HJ := hide hkq
    have hk7 : k ≤ 7 := by omega
    clear hkq
    by_cases hlt : k < 7
    · obtain ⟨v0, e0⟩ := hR.cell (i := k * 5) (by omega)
      obtain ⟨v1, e1⟩ := hR.cell (i := k * 5 + 1) (by omega)
      obtain ⟨v2, e2⟩ := hR.cell (i := k * 5 + 2) (by omega)
      obtain ⟨v3, e3⟩ := hR.cell (i := k * 5 + 3) (by omega)
      obtain ⟨v4, e4⟩ := hR.cell (i := k * 5 + 4) (by omega)
      have f0 := hR.frozen (k * 5)
      have f1 := hR.frozen (k * 5 + 1)
      have f2 := hR.frozen (k * 5 + 2)
      have f3 := hR.frozen (k * 5 + 3)
      have f4 := hR.frozen (k * 5 + 4)
      have hpl := hP.lt
      have hrl := hR.lt
      have n1 : ¬ w.heap.size = wr.heap.size := by omega
      have n2 : ¬ w.heap.size + 1 = wr.heap.size := by omega
      have hpc := hP.cell hlt
      have hpf := hP.frozen k
      go_wp2
      go_roundg (7 - (k + 1))
      case rel =>
        refine ⟨k + 1, by omega, by go_num, ?_, ?_, ?_⟩
        · exact ((((((hR.set _ _).set _ _).set _ _).set _ _).set _ _).other (p := ⟨w.heap.size + 1, k, none⟩) (by simp) _).alloc _
        · refine (((((((hP.setOther (a := ⟨w.heap.size, k * 5, none⟩) (by simp) _).setOther (a := ⟨w.heap.size, k * 5 + 1, none⟩) (by simp) _).setOther (a := ⟨w.heap.size, k * 5 + 2, none⟩) (by simp) _).setOther (a := ⟨w.heap.size, k * 5 + 3, none⟩) (by simp) _).setOther (a := ⟨w.heap.size, k * 5 + 4, none⟩) (by simp) _).set k _).congr ?_).alloc _
          intro i _
          unfold ptrK
          by_cases e : i = k
          · subst e; simp
          · rw [if_neg e]
            by_cases e2 : i < k
            · rw [if_pos e2, if_pos (by omega)]
            · rw [if_neg e2, if_neg (by omega)]
        · exact ((((((hB.setCell (p := ⟨w.heap.size, k * 5, none⟩) (Nat.le_refl _) _).setCell (p := ⟨w.heap.size, k * 5 + 1, none⟩) (Nat.le_refl _) _).setCell (p := ⟨w.heap.size, k * 5 + 2, none⟩) (Nat.le_refl _) _).setCell (p := ⟨w.heap.size, k * 5 + 3, none⟩) (Nat.le_refl _) _).setCell (p := ⟨w.heap.size, k * 5 + 4, none⟩) (Nat.le_refl _) _).setCell (p := ⟨w.heap.size + 1, k, none⟩) (by simp) _).alloc (by simp [World.setCell]; omega) _
      case measure => have := unhide HJ; omega
    · obtain rfl : k = 7 := by omega
      have p0 : wr.cell? ⟨w.heap.size + 1, 0, none⟩ = some (.pointer (some ⟨w.heap.size, 0, none⟩)) := hP.cell (i := 0) (by omega)
      have p1 : wr.cell? ⟨w.heap.size + 1, 1, none⟩ = some (.pointer (some ⟨w.heap.size, 5, none⟩)) := hP.cell (i := 1) (by omega)
      have p2 : wr.cell? ⟨w.heap.size + 1, 2, none⟩ = some (.pointer (some ⟨w.heap.size, 10, none⟩)) := hP.cell (i := 2) (by omega)
      have p3 : wr.cell? ⟨w.heap.size + 1, 3, none⟩ = some (.pointer (some ⟨w.heap.size, 15, none⟩)) := hP.cell (i := 3) (by omega)
      have p4 : wr.cell? ⟨w.heap.size + 1, 4, none⟩ = some (.pointer (some ⟨w.heap.size, 20, none⟩)) := hP.cell (i := 4) (by omega)
      have p5 : wr.cell? ⟨w.heap.size + 1, 5, none⟩ = some (.pointer (some ⟨w.heap.size, 25, none⟩)) := hP.cell (i := 5) (by omega)
      have p6 : wr.cell? ⟨w.heap.size + 1, 6, none⟩ = some (.pointer (some ⟨w.heap.size, 30, none⟩)) := hP.cell (i := 6) (by omega)
      go_wp2_with fail
      refine (newPlace_any _ _ _ _).mono ?_
      rintro e w1 ⟨rfl, hb1⟩
      have hl1 : w.heap.size < w1.heap.size := Nat.lt_of_lt_of_le hR.lt hb1.size
      obtain ⟨w2, hw2⟩ : ∃ w2 : World, w2 = w1.alloc (.cells #[.pointer none, .pointer none, .pointer none, .pointer none, .pointer none, .pointer none, .int .u16 f, .int .u16 g, .pointer (some ⟨w.heap.size, 0, none⟩), .pointer (some ⟨w.heap.size, 5, none⟩), .pointer (some ⟨w.heap.size, 10, none⟩), .pointer (some ⟨w.heap.size, 15, none⟩), .pointer (some ⟨w.heap.size, 20, none⟩), .pointer (some ⟨w.heap.size, 25, none⟩), .pointer (some ⟨w.heap.size, 30, none⟩)] 33) := ⟨_, rfl⟩
      have hP2 : P15 w2 w1.heap.size w.heap.size f g := by rw [hw2]; exact P15.mk w1 w.heap.size f g
      have hB2 : Below w.heap.size w w2 := by rw [hw2]; exact (hB.trans (hb1.mono hB.size)).alloc (Nat.le_of_lt hl1) _
      have hl2 : w1.heap.size < w2.heap.size := by rw [hw2]; simp
      have hR2 : Room w2 w.heap.size 27 35 := by rw [hw2]; exact (hR.keep hb1).alloc _
      clear p0 p1 p2 p3 p4 p5 p6 hP hR
      have ho0 : 0 < o := by
        rcases Nat.eq_zero_or_pos o with e | e
        · subst e; simp at hlow; have := Nat.two_pow_pos z; omega
        · exact e
      go_wp2_with fail
      rw [← hw2]
      clear hw2
      refine (namedBy_any w.heap.size f g o z w2 ho ho0 hz hlow (ht.keep hB2)).mono ?_
      rintro e w3 ⟨rfl, hb3⟩
      have hB3 : Below w.heap.size w w3 := hB2.trans (hb3.mono hB2.size)
      have hP3 := hP2.keep hb3 hl2
      have hR3 := hR2.keep hb3
      have hl3 : w1.heap.size < w3.heap.size := Nat.lt_of_lt_of_le hl2 hb3.size
      obtain ⟨q0, q1, q2, q3, q4, q5, q6, q7, q8, q9, q10, q11, q12, q13, q14⟩ := id hP3
      have hlv := low_val o z ho ho0 hlow
      have HLV := hide hlv
      clear hlv
      go_wp2_with fail
      rw [unhide HLV]
      have h2z : 2 ^ z < 65536 := Nat.lt_of_lt_of_le (Nat.pow_lt_pow_right (by omega) hz) (by decide)
      refine (namedBy_any w.heap.size f g (2 ^ z) z w3 h2z (Nat.two_pow_pos z) hz (Plain.low_pow z hz) (ht.keep hB3)).mono ?_
      rintro e w4 ⟨rfl, hb4⟩
      have hB4 : Below w.heap.size w w4 := hB3.trans (hb4.mono hB3.size)
      have hP4 := hP3.keep hb4 hl3
      have hR4 := hR3.keep hb4
      have hl4 : w1.heap.size < w4.heap.size := Nat.lt_of_lt_of_le hl3 hb4.size
      clear q0 q1 q2 q3 q4 q5 q6 q7 q8 q9 q10 q11 q12 q13 q14 hP3 hP2 HLV hR2 hR3
      have hns := neq24_same
      go_wp2_with fail
      go_loopg [13, 14] 7 (fun q c i wr => ∃ k : Nat, k + q = 7 ∧ i = .int .i64 k ∧ c = .int .i64 (hit z k) ∧ P15 wr w1.heap.size w.heap.size f g ∧ Room wr w.heap.size 27 35 ∧ Below w.heap.size w wr ∧ w1.heap.size < wr.heap.size)
      case atStart => exact ⟨0, rfl, rfl, by simp [hit], hP4, hR4, hB4, hl4⟩
      case round =>
        clear hP4 hR4 hB4 hl4
        obtain ⟨k, hkq, rfl, rfl, hPk, hRk, hBk, hlk⟩ := hrel
        have HJ := hide hkq
        have hk7 : k ≤ 7 := by omega
        clear hkq
        obtain ⟨q0, q1, q2, q3, q4, q5, q6, q7, q8, q9, q10, q11, q12, q13, q14⟩ := id hPk
        by_cases hlt : k < 7
        · have h2k : 2 ^ k < 65536 := Nat.lt_of_lt_of_le (Nat.pow_lt_pow_right (by omega) hlt) (by decide)
          have hsh : IntKind.u16.wrap ((2 : Int) ^ k) = ((2 ^ k : Nat) : Int) := by
            rw [IntKind.wrap_u16, show ((2 : Int) ^ k) = ((2 ^ k : Nat) : Int) by simp]
            exact Int.emod_eq_of_lt (Int.natCast_nonneg _) (Int.ofNat_lt.2 h2k)
          have HSH := hide hsh
          clear hsh
          go_wp2_with fail
          rw [unhide HSH]
          refine (namedBy_any w.heap.size f g (2 ^ k) k wr h2k (Nat.two_pow_pos k) hlt (Plain.low_pow k hlt) (ht.keep hBk)).mono ?_
          rintro e w5 ⟨rfl, hb5⟩
          have hP5 := hPk.keep hb5 hlk
          have hR5 := hRk.keep hb5
          have hB5 : Below w.heap.size w w5 := hBk.trans (hb5.mono hBk.size)
          have hl5 : w1.heap.size < w5.heap.size := Nat.lt_of_lt_of_le hlk hb5.size
          clear q0 q1 q2 q3 q4 q5 q6 q7 q8 q9 q10 q11 q12 q13 q14 hPk hRk HSH
          by_cases hkz : k = z
          · subst hkz
            have hes := eql24_same
            have HH : Hid (hit k (k + 1) = hit k k + 1) := by rw [Hid, hit, hit, if_pos (by omega), if_neg (by omega)]; rfl
            have hh0 : 0 ≤ hit k k ∧ hit k k ≤ 1 := by unfold hit; split <;> omega
            obtain ⟨hh1, hh2⟩ := hh0
            go_wp2_with fail
            go_roundg (7 - (k + 1))
            case rel => exact ⟨k + 1, by omega, by go_num, by rw [unhide HH], hP5, hR5, hB5, hl5⟩
            case measure => have := unhide HJ; omega
          · have heo := eql24_other (sb := w.heap.size) (x := k * 5) (y := z * 5) (by omega) w5 hR5
            have HH : Hid (hit z (k + 1) = hit z k) := by
              rw [Hid, hit, hit]
              by_cases h : z < k
              · rw [if_pos h, if_pos (by omega)]
              · rw [if_neg h, if_neg (by omega)]
            clear hkz
            go_wp2_with fail
            go_roundg (7 - (k + 1))
            case rel => exact ⟨k + 1, by omega, by go_num, by rw [unhide HH], hP5, hR5, hB5, hl5⟩
            case measure => have := unhide HJ; omega
        · obtain rfl : k = 7 := by omega
          have hh : (hit z 7 == 1) = true := by unfold hit; rw [if_pos hz]; rfl
          go_wp2_with fail
          go_ret
          exact ⟨rfl, hBk⟩
end Go.Proofs.Qxb6609418aDoor
