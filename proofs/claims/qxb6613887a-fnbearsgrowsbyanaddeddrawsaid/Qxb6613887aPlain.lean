namespace Go.Proofs.Qxb6613887a.Plain

/-- z is the number of one of n things. -/
def inN (n : Nat) (z : Int) : Prop := 0 ≤ z ∧ z < n

/-- y is in every set that holds root and is closed under S. -/
def Reach (S : Nat → List Int) (root y : Int) : Prop := ∀ C : Int → Prop, C root → (∀ x, C x → ∀ z ∈ S x.toNat, C z) → C y
theorem Reach.root (S : Nat → List Int) (r : Int) : Reach S r r := fun _ h _ => h
theorem Reach.step {S : Nat → List Int} {r x z : Int} (h : Reach S r x) (hz : z ∈ S x.toNat) : Reach S r z := fun C h0 h1 => h1 x (h C h0 h1) z hz

/-! ### numbers -/

theorem nodup_lt : ∀ (n : Nat) (l : List Nat), l.Nodup → (∀ x ∈ l, x < n) → l.length ≤ n
  | 0, l, _, h => by
    cases l with
    | nil => simp
    | cons a t => exact absurd (h a (by simp)) (by omega)
  | n + 1, l, hd, h => by
    by_cases hn : n ∈ l
    · have h1 := nodup_lt n (l.erase n) (hd.erase n) (fun x hx => by
        rw [hd.mem_erase_iff] at hx
        have := h x hx.2
        have := hx.1
        omega)
      rw [List.length_erase_of_mem hn] at h1
      omega
    · have h1 := nodup_lt n l hd (fun x hx => by
        have := h x hx
        by_cases e : x = n
        · exact absurd (e ▸ hx) hn
        · omega)
      omega

theorem nodup_inN {n : Nat} {l : List Int} (hd : l.Nodup) (h : ∀ x ∈ l, inN n x) : l.length ≤ n := by
  have := nodup_lt n (l.map Int.toNat) (by
    rw [List.nodup_iff_pairwise_ne] at hd ⊢
    rw [List.pairwise_map]
    refine List.Pairwise.imp_of_mem ?_ hd
    intro a b ha hb hne e
    have h1 := h a ha
    have h2 := h b hb
    unfold inN at h1 h2
    omega) (fun x hx => by
      obtain ⟨y, hy, rfl⟩ := List.mem_map.1 hx
      have := h y hy
      unfold inN at this
      omega)
  simpa using this

/-- How many of the first n are not seen. -/
def unseen (n : Nat) (s : Nat → Bool) : Nat := (List.range n).countP (fun i => !s i)
def upd (s : Nat → Bool) (i : Nat) : Nat → Bool := fun j => if j = i then true else s j

theorem unseen_upd {n : Nat} {s : Nat → Bool} {i : Nat} (hi : i < n) (hs : s i = false) : unseen n (upd s i) + 1 = unseen n s := by
  induction n with
  | zero => omega
  | succ n ih =>
    unfold unseen at *
    rw [List.range_succ, List.countP_append, List.countP_append]
    by_cases e : i = n
    · subst e
      have : (List.range i).countP (fun j => !upd s i j) = (List.range i).countP (fun j => !s j) := by
        apply List.countP_congr
        intro x hx
        have := List.mem_range.1 hx
        simp [upd, show x ≠ i by omega]
      rw [this]
      simp [upd, hs]
    · have := ih (by omega)
      have h2 : upd s i n = s n := by simp [upd, show n ≠ i by omega]
      simp only [List.countP_cons, List.countP_nil, h2]
      omega
theorem unseen_false (n : Nat) : unseen n (fun _ => false) = n := by
  unfold unseen
  simp

/-! ### depth first -/

structure Dfs (S : Nat → List Int) (n : Nat) (root : Int) (s : Nat → Bool) (stk cur : List Int) : Prop where
  rootSeen : s root.toNat = true
  sound : ∀ y, inN n y → s y.toNat = true → Reach S root y
  stkR : ∀ y ∈ stk, inN n y ∧ s y.toNat = true
  curR : ∀ y ∈ cur, inN n y ∧ s y.toNat = true
  closed : ∀ y, inN n y → s y.toNat = true → y ∉ stk → y ∉ cur → ∀ z ∈ S y.toNat, s z.toNat = true
  bound : stk.length + unseen n s ≤ n

theorem Dfs.start {S : Nat → List Int} {n : Nat} {root : Int} (h : inN n root) : Dfs S n root (upd (fun _ => false) root.toNat) [root] [] := by
  have key : ∀ y, inN n y → upd (fun _ => false) root.toNat y.toNat = true → y = root := by
    intro y hy e
    unfold inN at hy h
    simp [upd] at e
    omega
  refine ⟨by simp [upd], fun y hy e => key y hy e ▸ Reach.root S root, ?_, by simp, ?_, ?_⟩
  · intro y hy
    simp at hy
    subst hy
    exact ⟨h, by simp [upd]⟩
  · intro y hy e hn
    exact absurd (key y hy e) (by simpa using hn)
  · have h1 : root.toNat < n := by unfold inN at h; omega
    have := unseen_upd (s := fun _ => false) h1 rfl
    rw [unseen_false] at this
    simp
    omega

theorem Dfs.pop {S : Nat → List Int} {n : Nat} {root : Int} {s : Nat → Bool} {stk : List Int} {x : Int} (h : Dfs S n root s (stk ++ [x]) []) : Dfs S n root s stk [x] :=
  ⟨h.rootSeen, h.sound, fun y hy => h.stkR y (by simp [hy]), fun y hy => h.stkR y (by simp at hy; simp [hy]),
    fun y hy e h1 h2 => h.closed y hy e (by simp at h2; simp [h1, h2]) (by simp), by have := h.bound; simp at this; omega⟩

theorem Dfs.push {S : Nat → List Int} {n : Nat} {root : Int} {s : Nat → Bool} {stk : List Int} {x y : Int} (h : Dfs S n root s stk [x]) (hy : inN n y) (hs : s y.toNat = false) (hS : y ∈ S x.toNat) :
    Dfs S n root (upd s y.toNat) (stk ++ [y]) [x] := by
  have key : ∀ z, inN n z → upd s y.toNat z.toNat = true → z = y ∨ s z.toNat = true := by
    intro z hz e
    unfold inN at hz hy
    simp [upd] at e
    by_cases e2 : z.toNat = y.toNat
    · left; omega
    · right; simpa [e2] using e
  have mono : ∀ i, s i = true → upd s y.toNat i = true := by
    intro i e
    simp [upd, e]
  have hx := h.curR x (by simp)
  refine ⟨mono _ h.rootSeen, ?_, ?_, fun z hz => ⟨(h.curR z hz).1, mono _ (h.curR z hz).2⟩, ?_, ?_⟩
  · intro z hz e
    rcases key z hz e with rfl | e
    · exact (h.sound x hx.1 hx.2).step hS
    · exact h.sound z hz e
  · intro z hz
    rcases List.mem_append.1 hz with hz | hz
    · exact ⟨(h.stkR z hz).1, mono _ (h.stkR z hz).2⟩
    · simp at hz
      subst hz
      exact ⟨hy, by simp [upd]⟩
  · intro z hz e h1 h2 u hu
    rcases key z hz e with rfl | e
    · simp at h1
    · exact mono _ (h.closed z hz e (fun hm => h1 (by simp [hm])) h2 u hu)
  · have h1 : y.toNat < n := by unfold inN at hy; omega
    have := unseen_upd h1 hs
    have := h.bound
    simp
    omega

theorem Dfs.done {S : Nat → List Int} {n : Nat} {root : Int} {s : Nat → Bool} {stk : List Int} {x : Int} (h : Dfs S n root s stk [x]) (hS : ∀ z ∈ S x.toNat, s z.toNat = true) : Dfs S n root s stk [] :=
  ⟨h.rootSeen, h.sound, h.stkR, by simp, fun y hy e h1 _ => by
    by_cases hx : y = x
    · subst hx; exact hS
    · exact h.closed y hy e h1 (by simpa using hx), h.bound⟩

theorem Dfs.final {S : Nat → List Int} {n : Nat} {root : Int} {s : Nat → Bool} (hr : inN n root) (hS : ∀ x, inN n x → ∀ z ∈ S x.toNat, inN n z) (h : Dfs S n root s [] []) {y : Int} (hy : inN n y) : s y.toNat = true ↔ Reach S root y := by
  refine ⟨h.sound y hy, fun hR => ?_⟩
  exact (hR (fun y => inN n y ∧ s y.toNat = true) ⟨hr, h.rootSeen⟩ (fun x hx z hz => ⟨hS x hx.1 z hz, h.closed x hx.1 hx.2 (by simp) (by simp) z hz⟩)).2

/-! ### breadth first -/

structure Bfs (S : Nat → List Int) (n : Nat) (root : Int) (cone : List Int) (i : Nat) : Prop where
  head : cone[0]? = some root
  nodup : cone.Nodup
  sound : ∀ y ∈ cone, inN n y ∧ Reach S root y
  closed : ∀ (j : Nat) (x : Int), j < i → cone[j]? = some x → ∀ z ∈ S x.toNat, z ∈ cone

theorem Bfs.length {S : Nat → List Int} {n : Nat} {root : Int} {cone : List Int} {i : Nat} (h : Bfs S n root cone i) : cone.length ≤ n := nodup_inN h.nodup fun x hx => (h.sound x hx).1
theorem Bfs.pos {S : Nat → List Int} {n : Nat} {root : Int} {cone : List Int} {i : Nat} (h : Bfs S n root cone i) : 0 < cone.length := by
  have := h.head
  cases cone with
  | nil => simp at this
  | cons a t => simp

theorem Bfs.start {S : Nat → List Int} {n : Nat} {root : Int} (h : inN n root) : Bfs S n root [root] 0 :=
  ⟨rfl, by simp, fun y hy => by simp at hy; subst hy; exact ⟨h, Reach.root S y⟩, fun j x hj => by omega⟩

theorem Bfs.push {S : Nat → List Int} {n : Nat} {root : Int} {cone : List Int} {i : Nat} {x y : Int} (h : Bfs S n root cone i) (hx : x ∈ cone) (hy : inN n y) (hS : y ∈ S x.toNat) (hn : y ∉ cone) (hi : i ≤ cone.length) : Bfs S n root (cone ++ [y]) i := by
  refine ⟨?_, ?_, ?_, ?_⟩
  · rw [List.getElem?_append_left h.pos]; exact h.head
  · rw [List.nodup_append]
    refine ⟨h.nodup, by simp, ?_⟩
    intro a ha b hb
    simp at hb
    subst hb
    intro e
    exact hn (e ▸ ha)
  · intro z hz
    rcases List.mem_append.1 hz with hz | hz
    · exact h.sound z hz
    · simp at hz
      subst hz
      exact ⟨hy, (h.sound x hx).2.step hS⟩
  · intro j u hj hu z hz
    rw [List.getElem?_append_left (by omega)] at hu
    exact List.mem_append_left _ (h.closed j u hj hu z hz)

theorem Bfs.next {S : Nat → List Int} {n : Nat} {root : Int} {cone : List Int} {i : Nat} {x : Int} (h : Bfs S n root cone i) (hi : cone[i]? = some x) (hS : ∀ z ∈ S x.toNat, z ∈ cone) : Bfs S n root cone (i + 1) :=
  ⟨h.head, h.nodup, h.sound, fun j u hj hu z hz => by
    by_cases e : j = i
    · subst e
      rw [hi] at hu
      cases hu
      exact hS z hz
    · exact h.closed j u (by omega) hu z hz⟩

theorem Bfs.final {S : Nat → List Int} {n : Nat} {root : Int} {cone : List Int} {i : Nat} (h : Bfs S n root cone i) (hi : cone.length ≤ i) {y : Int} : y ∈ cone ↔ Reach S root y := by
  refine ⟨fun hy => (h.sound y hy).2, fun hR => ?_⟩
  have h0 : root ∈ cone := List.mem_of_getElem? h.head
  exact hR (fun y => y ∈ cone) h0 (fun x hx z hz => by
    obtain ⟨j, hj, e⟩ := List.getElem_of_mem hx
    exact h.closed j x (by omega) (by rw [List.getElem?_eq_getElem hj, e]) z hz)

/-- As many numbers are in the cone as are seen. -/
theorem count_eq {n : Nat} {cone : List Int} {s : Nat → Bool} (hd : cone.Nodup) (hr : ∀ y ∈ cone, inN n y) (hs : ∀ y, inN n y → (y ∈ cone ↔ s y.toNat = true)) : cone.length = (List.range n).countP s := by
  have hp : (cone.map Int.toNat).Perm ((List.range n).filter s) := by
    rw [List.perm_ext_iff_of_nodup]
    · intro a
      simp only [List.mem_map, List.mem_filter, List.mem_range]
      constructor
      · rintro ⟨y, hy, rfl⟩
        have h1 := hr y hy
        exact ⟨by unfold inN at h1; omega, (hs y h1).1 hy⟩
      · rintro ⟨h1, h2⟩
        exact ⟨(a : Int), (hs a (by unfold inN; omega)).2 (by simpa using h2), by simp⟩
    · rw [List.nodup_iff_pairwise_ne] at hd ⊢
      rw [List.pairwise_map]
      refine List.Pairwise.imp_of_mem ?_ hd
      intro a b ha hb hne e
      have h1 := hr a ha
      have h2 := hr b hb
      unfold inN at h1 h2
      omega
    · exact List.nodup_range.filter _
  have := hp.length_eq
  rw [List.length_map] at this
  rw [this, List.countP_eq_length_filter]
end Go.Proofs.Qxb6613887a.Plain
