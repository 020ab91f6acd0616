/-
  PLAIN: reachability, and an undirected multigraph given by adjacency entries; when two edges are never parted by one node.
-/
namespace Go.Proofs.Qxb6602148a

/-- b lies in every set that holds a and is closed under R. -/
def Rch (R : Nat → Nat → Prop) (a b : Nat) : Prop := ∀ S : Nat → Prop, S a → (∀ x y, S x → R x y → S y) → S b

theorem Rch.refl (R : Nat → Nat → Prop) (a : Nat) : Rch R a a := fun _ h _ => h
theorem Rch.step {R : Nat → Nat → Prop} {a b c : Nat} (h : Rch R a b) (r : R b c) : Rch R a c := fun S ha hs => hs b c (h S ha hs) r
theorem Rch.one {R : Nat → Nat → Prop} {a b : Nat} (r : R a b) : Rch R a b := (Rch.refl R a).step r
theorem Rch.trans {R : Nat → Nat → Prop} {a b c : Nat} (h : Rch R a b) (k : Rch R b c) : Rch R a c := fun S ha hs => k S (h S ha hs) hs
theorem Rch.symm {R : Nat → Nat → Prop} (hR : ∀ a b, R a b → R b a) {a b : Nat} (h : Rch R a b) : Rch R b a :=
  h (fun x => Rch R x a) (Rch.refl R a) (fun x y hx r => (Rch.one (hR x y r)).trans hx)
theorem Rch.mono {R R' : Nat → Nat → Prop} (hR : ∀ a b, R a b → R' a b) {a b : Nat} (h : Rch R a b) : Rch R' a b :=
  h (fun x => Rch R' a x) (Rch.refl R' a) (fun x y hx r => hx.step (hR x y r))

/-- An undirected multigraph of N nodes: node v's entries stand at places st v .. st (v+1) - 1; an entry is a node and an edge. -/
structure UG where
  N : Nat
  st : Nat → Nat
  eN : Nat → Nat
  eE : Nat → Nat

/-- Edge e leads from a to b. -/
def UG.inc (g : UG) (a e b : Nat) : Prop := a < g.N ∧ ∃ q, g.st a ≤ q ∧ q < g.st (a + 1) ∧ g.eN q = b ∧ g.eE q = e

structure UG.Ok (g : UG) : Prop where
  mono : ∀ v, g.st v ≤ g.st (v + 1)
  lt : ∀ a e b, g.inc a e b → b < g.N ∧ b ≠ a
  symm : ∀ a e b, g.inc a e b → g.inc b e a
  uniq : ∀ v q q', v < g.N → g.st v ≤ q → q < g.st (v + 1) → g.st v ≤ q' → q' < g.st (v + 1) → g.eE q = g.eE q' → q = q'
  two : ∀ a e b a' b', g.inc a e b → g.inc a' e b' → (a' = a ∧ b' = b) ∨ (a' = b ∧ b' = a)

def UG.Adj (g : UG) (x a b : Nat) : Prop := a ≠ x ∧ b ≠ x ∧ ∃ e, g.inc a e b
/-- a and b hang together without x. -/
def UG.Cn (g : UG) (x a b : Nat) : Prop := Rch (g.Adj x) a b
/-- Edges e and e' are parted by no node. -/
def UG.Eqv (g : UG) (e e' : Nat) : Prop := ∀ x a b a' b', g.inc a e b → g.inc a' e' b' → a ≠ x → a' ≠ x → g.Cn x a a'

theorem UG.Ok.adj_symm {g : UG} (ok : g.Ok) {x a b : Nat} (h : g.Adj x a b) : g.Adj x b a := by
  obtain ⟨h1, h2, e, h3⟩ := h
  exact ⟨h2, h1, e, ok.symm _ _ _ h3⟩
theorem UG.Ok.cn_symm {g : UG} (ok : g.Ok) {x a b : Nat} (h : g.Cn x a b) : g.Cn x b a := Rch.symm (fun _ _ => ok.adj_symm) h
theorem UG.Ok.eqv_symm {g : UG} (ok : g.Ok) {e e' : Nat} (h : g.Eqv e e') : g.Eqv e' e :=
  fun x a b a' b' h1 h2 n1 n2 => ok.cn_symm (h x a' b' a b h2 h1 n2 n1)
theorem UG.Ok.eqv_refl {g : UG} (ok : g.Ok) (e : Nat) : g.Eqv e e := by
  intro x a b a' b' h1 h2 n1 n2
  rcases ok.two _ _ _ _ _ h1 h2 with ⟨rfl, rfl⟩ | ⟨rfl, rfl⟩
  · exact Rch.refl _ _
  · exact Rch.one ⟨n1, n2, e, h1⟩
theorem UG.Ok.eqv_trans {g : UG} (ok : g.Ok) {e e' e'' : Nat} (hex : ∃ a b, g.inc a e' b) (h : g.Eqv e e') (k : g.Eqv e' e'') : g.Eqv e e'' := by
  intro x a b a' b' h1 h2 n1 n2
  obtain ⟨c, d, h3⟩ := hex
  by_cases hc : c = x
  · have hd : d ≠ x := fun h => (ok.lt _ _ _ h3).2 (h.trans hc.symm)
    exact (h x a b d c h1 (ok.symm _ _ _ h3) n1 hd).trans (k x d c a' b' (ok.symm _ _ _ h3) h2 hd n2)
  · exact (h x a b c d h1 h3 n1 hc).trans (k x c d a' b' h3 h2 hc n2)

/-- A walk Y i, Y (i+1), .., Y j that does not meet x. -/
theorem UG.seg {g : UG} (x : Nat) (Y : Nat → Nat) (i : Nat) : ∀ n, (∀ t, i ≤ t → t ≤ i + n → Y t ≠ x) → (∀ t, i ≤ t → t < i + n → ∃ e, g.inc (Y t) e (Y (t + 1))) → g.Cn x (Y i) (Y (i + n))
  | 0, _, _ => Rch.refl _ _
  | n + 1, h1, h2 => by
    have ih := UG.seg x Y i n (fun t a b => h1 t a (by omega)) (fun t a b => h2 t a (by omega))
    obtain ⟨e, he⟩ := h2 (i + n) (by omega) (by omega)
    exact ih.step ⟨h1 _ (by omega) (by omega), h1 _ (by omega) (by omega), e, he⟩

/-- A simple cycle: Y a .. Y t, closed by an edge between Y t and Y a: whichever node is taken out, what is left of it hangs together. -/
theorem UG.Ok.ring {g : UG} (ok : g.Ok) (Y : Nat → Nat) (a t : Nat) (hd : ∀ i j, a ≤ i → i ≤ t → a ≤ j → j ≤ t → Y i = Y j → i = j) (hs : ∀ i, a ≤ i → i < t → ∃ e, g.inc (Y i) e (Y (i + 1))) (hc : ∃ e, g.inc (Y t) e (Y a))
    (x i j : Nat) (hi : a ≤ i) (hi' : i ≤ t) (hj : a ≤ j) (hj' : j ≤ t) (nx : Y i ≠ x) (ny : Y j ≠ x) : g.Cn x (Y i) (Y j) := by
  have sg : ∀ i j, a ≤ i → i ≤ j → j ≤ t → (∀ k, i ≤ k → k ≤ j → Y k ≠ x) → g.Cn x (Y i) (Y j) := by
    intro i j h1 h2 h3 h4
    obtain ⟨n, rfl⟩ : ∃ n, j = i + n := ⟨j - i, by omega⟩
    exact UG.seg x Y i n h4 (fun k k1 k2 => hs k (by omega) (by omega))
  have main : ∀ i j, a ≤ i → i ≤ j → j ≤ t → Y i ≠ x → Y j ≠ x → g.Cn x (Y i) (Y j) := by
    intro i j h1 h2 h3 n1 n2
    by_cases hx : ∃ c, i ≤ c ∧ c ≤ j ∧ Y c = x
    · obtain ⟨c, c1, c2, c3⟩ := hx
      have u : ∀ k, a ≤ k → k ≤ t → k ≠ c → Y k ≠ x := fun k k1 k2 k3 k4 => k3 (hd k c k1 k2 (by omega) (by omega) (k4.trans c3.symm))
      have ci : i ≠ c := fun h => n1 (by rw [h]; exact c3)
      have cj : j ≠ c := fun h => n2 (by rw [h]; exact c3)
      have p1 : g.Cn x (Y a) (Y i) := sg a i (Nat.le_refl _) h1 (by omega) (fun k k1 k2 => u k k1 (by omega) (by omega))
      have p2 : g.Cn x (Y j) (Y t) := sg j t (by omega) h3 (Nat.le_refl _) (fun k k1 k2 => u k (by omega) k2 (by omega))
      obtain ⟨e, he⟩ := hc
      have p3 : g.Cn x (Y t) (Y a) := Rch.one ⟨u t (by omega) (Nat.le_refl _) (by omega), u a (Nat.le_refl _) (by omega) (by omega), e, he⟩
      exact ok.cn_symm ((p2.trans p3).trans p1)
    · exact sg i j h1 h2 h3 (fun k k1 k2 k3 => hx ⟨k, k1, k2, k3⟩)
  rcases Nat.le_total i j with h | h
  · exact main i j hi h hj' nx ny
  · exact ok.cn_symm (main j i hj h hi' ny nx)

/-- Two edges whose ends lie on one such ring are parted by no node. -/
theorem UG.eqv_of {g : UG} {S : Nat → Prop} (h : ∀ x u v, S u → S v → u ≠ x → v ≠ x → g.Cn x u v) {e e' : Nat} (h1 : ∀ a b, g.inc a e b → S a) (h2 : ∀ a b, g.inc a e' b → S a) : g.Eqv e e' :=
  fun x a b a' b' i1 i2 n1 n2 => h x a a' (h1 a b i1) (h2 a' b' i2) n1 n2

end Go.Proofs.Qxb6602148a
