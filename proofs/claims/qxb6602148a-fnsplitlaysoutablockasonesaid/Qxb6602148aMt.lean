/-
  'zzMeetsModel': what it is handed, and when it answers true.
-/
import Derived.Test.Qxb6602148aMdc
import Derived.Test.Qxb6602148aTk
attribute [local go_sem] Go.Proofs.Qxb6602148a.yTo Go.Proofs.Qxb6602148a.yUpon
namespace Go.Proofs.Qxb6602148a
open Go.RowKit
set_option linter.unusedVariables false
set_option linter.unusedSimpArgs false

/-- The model, plainly. -/
structure MD where
  n : Nat
  E : Nat
  nc : Nat
  sr : Nat → Nat
  ds : Nat → Nat
  cls : Nat → Nat
  onc : Nat → Bool

/-- Edge e lies on a cycle and in component c. -/
def MD.inc (X : MD) (P : PS) (c e : Nat) : Bool := X.onc e && (P.comp (P.fr e).toNat == ((c : Nat) : Int))

/-- The partition P meets the model X. -/
structure Meet (X : MD) (P : PS) : Prop where
  nE : P.nE = X.E
  s0 : ∀ s, s < P.nS → P.comp s = -1 → P.on s = 0
  s1 : ∀ s, s < P.nS → P.comp s ≠ -1 → ∃ c : Nat, c < P.nC ∧ P.comp s = (c : Int) ∧ P.mn c ≠ 0
  off : ∀ e, e < X.E → X.onc e = false → P.fr e = -1 ∧ P.to e = -1
  on : ∀ e, e < X.E → X.onc e = true → ∃ f t c : Nat, f < P.nS ∧ t < P.nS ∧ P.fr e = (f : Int) ∧ P.to e = (t : Int) ∧ P.node f = ((X.sr e : Nat) : Int) ∧ P.node t = ((X.ds e : Nat) : Int) ∧ P.comp f = (c : Int) ∧ P.comp t = (c : Int)
  cl : ∀ e, e < X.E → X.onc e = true → X.cls e < X.nc
  eqv : ∀ e e', e < X.E → e' < X.E → X.onc e = true → X.onc e' = true → (X.cls e = X.cls e' ↔ P.comp (P.fr e).toNat = P.comp (P.fr e').toNat)
  c1 : ∀ c, c < P.nC → P.mn c ≠ 0 → cnt (X.inc P c) X.E ≠ 0 ∧ P.edg c = ((cnt (X.inc P c) X.E : Nat) : Int) ∧ P.mn c = cnt (fun s => P.comp s == ((c : Nat) : Int)) P.nS
  m1 : ∀ c j, c < P.nC → j < P.mn c → ∃ s v : Nat, s < P.nS ∧ P.mem c j = (s : Int) ∧ P.comp s = ((c : Nat) : Int) ∧ (∃ e, e < X.E ∧ X.onc e = true ∧ (P.fr e = (s : Int) ∨ P.to e = (s : Int))) ∧ P.node s = (v : Int) ∧ v < X.n
  m2 : ∀ c j j', c < P.nC → j < P.mn c → j' < P.mn c → P.node (P.mem c j).toNat = P.node (P.mem c j').toNat → j = j'
  o1 : ∀ s k, s < P.nS → k < P.on s → ∃ e : Nat, P.out s k = (e : Int) ∧ e < X.E ∧ P.fr e = (s : Int)
  o2 : ∀ s e, s < P.nS → e < X.E → P.fr e = (s : Int) → ∃ k, k < P.on s ∧ P.out s k = (e : Int)
  o3 : ∀ s k k', s < P.nS → k < k' → k' < P.on s → P.out s k < P.out s k'

theorem cnt_succ (p : Nat → Bool) (n : Nat) : cnt p (n + 1) = cnt p n + (if p n then 1 else 0) := rfl
theorem cnt_pos {p : Nat → Bool} : ∀ {n : Nat}, cnt p n ≠ 0 → ∃ e, e < n ∧ p e = true
  | 0, h => absurd rfl h
  | n + 1, h => by
    by_cases hp : p n = true
    · exact ⟨n, by omega, hp⟩
    · have : cnt p n ≠ 0 := by
        rw [cnt_succ, if_neg hp] at h; exact h
      obtain ⟨e, h1, h2⟩ := cnt_pos this
      exact ⟨e, by omega, h2⟩

/-- The k-th of an increasing list that holds just the e with p e, all below N. -/
theorem cnt_list {p : Nat → Bool} {N m : Nat} {f : Nat → Nat} (h1 : ∀ k, k < m → f k < N ∧ p (f k) = true) (h2 : ∀ e, e < N → p e = true → ∃ k, k < m ∧ f k = e) (h3 : ∀ k k', k < k' → k' < m → f k < f k') :
    ∀ n, n ≤ N → cnt p n ≤ m ∧ (∀ k, k < cnt p n → f k < n) ∧ (∀ k, k < m → f k < n → k < cnt p n)
  | 0, _ => ⟨Nat.zero_le _, fun k hk => absurd hk (Nat.not_lt_zero _), fun k _ hk => absurd hk (Nat.not_lt_zero _)⟩
  | n + 1, hn => by
    obtain ⟨a, b, c⟩ := cnt_list h1 h2 h3 n (by omega)
    rw [cnt_succ]
    by_cases hp : p n = true
    · rw [if_pos hp]
      obtain ⟨k, hk, he⟩ := h2 n (by omega) hp
      have hk1 : ¬ k < cnt p n := fun h => by have := b k h; omega
      have hk2 : k ≤ cnt p n := by
        rcases Nat.lt_or_ge (cnt p n) k with hlt | hge
        · exfalso
          have h4 := h3 (cnt p n) k hlt hk
          rw [he] at h4
          have := c (cnt p n) (by omega) h4
          omega
        · exact hge
      have hke : k = cnt p n := by omega
      refine ⟨by omega, fun k' hk' => ?_, fun k' hk' hlt => ?_⟩
      · by_cases e : k' = cnt p n
        · rw [e, ← hke, he]; omega
        · have := b k' (by omega); omega
      · by_cases e : f k' = n
        · rcases Nat.lt_trichotomy k' k with h | h | h
          · omega
          · omega
          · have := h3 k k' h hk'; omega
        · have := c k' hk' (by omega); omega
    · rw [if_neg hp]
      refine ⟨a, fun k hk => by have := b k hk; omega, fun k hk hlt => c k hk ?_⟩
      have : f k ≠ n := fun e => hp (by rw [← e]; exact (h1 k hk).2)
      omega
theorem cnt_list_at {p : Nat → Bool} {N m : Nat} {f : Nat → Nat} (h1 : ∀ k, k < m → f k < N ∧ p (f k) = true) (h2 : ∀ e, e < N → p e = true → ∃ k, k < m ∧ f k = e) (h3 : ∀ k k', k < k' → k' < m → f k < f k') {e : Nat} (he : e < N) (hp : p e = true) : cnt p e < m ∧ f (cnt p e) = e := by
  obtain ⟨a, b, c⟩ := cnt_list h1 h2 h3 e (by omega)
  obtain ⟨a', b', c'⟩ := cnt_list h1 h2 h3 (e + 1) he
  rw [cnt_succ, if_pos hp] at a' b' c'
  have h4 := b' (cnt p e) (by omega)
  refine ⟨by omega, ?_⟩
  rcases Nat.lt_or_ge (f (cnt p e)) e with hlt | hge
  · have := c _ (by omega) hlt; omega
  · omega
theorem cnt_list_all {p : Nat → Bool} {N m : Nat} {f : Nat → Nat} (h1 : ∀ k, k < m → f k < N ∧ p (f k) = true) (h2 : ∀ e, e < N → p e = true → ∃ k, k < m ∧ f k = e) (h3 : ∀ k k', k < k' → k' < m → f k < f k') : cnt p N = m := by
  obtain ⟨a, b, c⟩ := cnt_list h1 h2 h3 N (Nat.le_refl _)
  rcases Nat.lt_or_ge (cnt p N) m with hlt | hge
  · have := c (cnt p N) hlt (h1 _ hlt).1; omega
  · omega

section
variable {X : MD} {P : PS}
/-- The edges from slot s. -/
def PS.frm (P : PS) (s e : Nat) : Bool := P.fr e == ((s : Nat) : Int)
theorem Meet.ol (h : Meet X P) {s : Nat} (hs : s < P.nS) : (∀ k, k < P.on s → (P.out s k).toNat < X.E ∧ P.frm s (P.out s k).toNat = true) ∧ (∀ e, e < X.E → P.frm s e = true → ∃ k, k < P.on s ∧ (P.out s k).toNat = e) ∧ (∀ k k', k < k' → k' < P.on s → (P.out s k).toNat < (P.out s k').toNat) := by
  refine ⟨fun k hk => ?_, fun e he hf => ?_, fun k k' h1 h2 => ?_⟩
  · obtain ⟨e, e1, e2, e3⟩ := h.o1 s k hs hk
    rw [e1, Int.toNat_natCast]
    exact ⟨e2, by unfold PS.frm; rw [e3]; simp⟩
  · have hf : P.fr e = (s : Int) := by simpa [PS.frm] using hf
    obtain ⟨k, k1, k2⟩ := h.o2 s e hs he hf
    exact ⟨k, k1, by rw [k2, Int.toNat_natCast]⟩
  · obtain ⟨e, e1, e2, e3⟩ := h.o1 s k hs (by omega)
    obtain ⟨e', e1', e2', e3'⟩ := h.o1 s k' hs h2
    have := h.o3 s k k' hs h1 h2
    rw [e1, e1'] at this ⊢
    rw [Int.toNat_natCast, Int.toNat_natCast]; omega
/-- The next edge of slot s. -/
theorem Meet.pos_at (h : Meet X P) {s e : Nat} (hs : s < P.nS) (he : e < X.E) (hf : P.fr e = (s : Int)) : cnt (P.frm s) e < P.on s ∧ P.out s (cnt (P.frm s) e) = (e : Int) := by
  obtain ⟨a, b, c⟩ := h.ol hs
  obtain ⟨h1, h2⟩ := cnt_list_at a b c he (by unfold PS.frm; rw [hf]; simp)
  refine ⟨h1, ?_⟩
  obtain ⟨e', e1, _⟩ := h.o1 s _ hs h1
  rw [e1] at h2 ⊢
  rw [Int.toNat_natCast] at h2
  rw [h2]
theorem Meet.pos_all (h : Meet X P) {s : Nat} (hs : s < P.nS) : cnt (P.frm s) X.E = P.on s := by
  obtain ⟨a, b, c⟩ := h.ol hs
  exact cnt_list_all a b c
theorem Meet.on_le (h : Meet X P) {s : Nat} (hs : s < P.nS) : P.on s ≤ X.E := by
  rw [← h.pos_all hs]; exact cnt_le _ _
theorem Meet.mn_le (h : Meet X P) {c : Nat} (hc : c < P.nC) : P.mn c ≤ P.nS := by
  by_cases h0 : P.mn c = 0
  · omega
  · rw [(h.c1 c hc h0).2.2]; exact cnt_le _ _

/-- The first pass over the edges: tc, tk: the tables between classes and components; td: the slots touched. -/
structure MtE (X : MD) (P : PS) (e : Nat) (tc tk : Nat → Int) (td : Nat → Bool) : Prop where
  a : ∀ e', e' < e → X.onc e' = true → tc (X.cls e') = P.comp (P.fr e').toNat ∧ tk (P.comp (P.fr e').toNat).toNat = ((X.cls e' : Nat) : Int)
  b : ∀ k, k < X.nc → tc k = -1 ∨ ∃ e', e' < e ∧ X.onc e' = true ∧ X.cls e' = k
  c : ∀ c, c < P.nC → tk c = -1 ∨ ∃ e', e' < e ∧ X.onc e' = true ∧ P.comp (P.fr e').toNat = ((c : Nat) : Int)
  d : ∀ e' s : Nat, e' < e → X.onc e' = true → (P.fr e' = (s : Int) ∨ P.to e' = (s : Int)) → td s = true
theorem MtE.start (X : MD) (P : PS) : MtE X P 0 (fun _ => -1) (fun _ => -1) (fun _ => false) :=
  ⟨fun e' h => absurd h (Nat.not_lt_zero _), fun k _ => .inl rfl, fun c _ => .inl rfl, fun e' s h => absurd h (Nat.not_lt_zero _)⟩
theorem MtE.skip {e : Nat} {tc tk : Nat → Int} {td : Nat → Bool} (h : MtE X P e tc tk td) (ho : X.onc e = false) : MtE X P (e + 1) tc tk td := by
  have ne : ∀ e', e' < e + 1 → X.onc e' = true → e' < e := fun e' h1 h2 => by
    have : e' ≠ e := fun e0 => by rw [e0, ho] at h2; cases h2
    omega
  refine ⟨fun e' h1 h2 => h.a e' (ne e' h1 h2) h2, fun k hk => ?_, fun c hc => ?_, fun e' s h1 h2 => h.d e' s (ne e' h1 h2) h2⟩
  · rcases h.b k hk with h1 | ⟨e', h1, h2⟩
    · exact .inl h1
    · exact .inr ⟨e', by omega, h2⟩
  · rcases h.c c hc with h1 | ⟨e', h1, h2⟩
    · exact .inl h1
    · exact .inr ⟨e', by omega, h2⟩
/-- Both tables are open here, or both are laid. -/
theorem MtE.case (hm : Meet X P) {e : Nat} {tc tk : Nat → Int} {td : Nat → Bool} (h : MtE X P e tc tk td) (he : e < X.E) (ho : X.onc e = true) {c : Nat} (hc : c < P.nC) (hf : P.comp (P.fr e).toNat = ((c : Nat) : Int)) :
    (tc (X.cls e) = -1 ∧ tk c = -1) ∨ (tc (X.cls e) = ((c : Nat) : Int) ∧ tk c = ((X.cls e : Nat) : Int)) := by
  rcases h.b (X.cls e) (hm.cl e he ho) with h1 | ⟨e', h1, h2, h3⟩
  · rcases h.c c hc with h4 | ⟨e', h5, h6, h7⟩
    · exact .inl ⟨h1, h4⟩
    · exfalso
      have := (hm.eqv e e' he (by omega) ho h6).2 (by rw [hf, h7])
      have h8 := (h.a e' h5 h6).1
      rw [← this, h1, h7] at h8
      omega
  · have h4 := (hm.eqv e e' he (by omega) ho h2).1 h3.symm
    obtain ⟨h5, h6⟩ := h.a e' h1 h2
    rw [← h4, hf] at h5 h6
    rw [h3] at h5 h6
    rw [Int.toNat_natCast] at h6
    exact .inr ⟨h5, h6⟩
theorem MtE.next {e : Nat} {tc tk tc' tk' : Nat → Int} {td td' : Nat → Bool} (h : MtE X P e tc tk td) {c f t : Nat} (hf : P.fr e = (f : Int)) (ht : P.to e = (t : Int)) (hcf : P.comp f = ((c : Nat) : Int))
    (h1 : ∀ k, tc' k = if k = X.cls e then ((c : Nat) : Int) else tc k) (h2 : ∀ k, tk' k = if k = c then ((X.cls e : Nat) : Int) else tk k) (h3 : ∀ s, td' s = if s = f ∨ s = t then true else td s)
    (hm : Meet X P) (he : e < X.E) (ho : X.onc e = true) : MtE X P (e + 1) tc' tk' td' := by
  have hc1 : P.comp (P.fr e).toNat = ((c : Nat) : Int) := by rw [hf, Int.toNat_natCast]; exact hcf
  refine ⟨fun e' h4 h5 => ?_, fun k hk => ?_, fun c' hc' => ?_, fun e' s h4 h5 h6 => ?_⟩
  · by_cases ee : e' = e
    · subst ee
      rw [h1, if_pos rfl, hc1, Int.toNat_natCast, h2, if_pos rfl]
      exact ⟨rfl, rfl⟩
    · obtain ⟨h6, h7⟩ := h.a e' (by omega) h5
      have q := hm.eqv e' e (by omega) he h5 ho
      rw [h1, h2]
      obtain ⟨f', t', c', _, _, f4, _, _, _, c5, _⟩ := hm.on e' (by omega) h5
      have hc2 : P.comp (P.fr e').toNat = ((c' : Nat) : Int) := by rw [f4, Int.toNat_natCast]; exact c5
      rw [hc1, hc2] at q
      rw [hc2] at h6 h7 ⊢
      rw [Int.toNat_natCast] at h7 ⊢
      by_cases hk : X.cls e' = X.cls e
      · have : c' = c := by have := q.1 hk; omega
        rw [if_pos hk, if_pos this, this, hk]
        exact ⟨rfl, rfl⟩
      · have : c' ≠ c := fun h => hk (q.2 (by rw [h]))
        rw [if_neg hk, if_neg this]
        exact ⟨h6, h7⟩
  · rw [h1]
    by_cases hk' : k = X.cls e
    · exact .inr ⟨e, by omega, ho, hk'.symm⟩
    · rw [if_neg hk']
      rcases h.b k hk with h4 | ⟨e', h4, h5⟩
      · exact .inl h4
      · exact .inr ⟨e', by omega, h5⟩
  · rw [h2]
    by_cases hk' : c' = c
    · exact .inr ⟨e, by omega, ho, by rw [hk']; exact hc1⟩
    · rw [if_neg hk']
      rcases h.c c' hc' with h4 | ⟨e', h4, h5⟩
      · exact .inl h4
      · exact .inr ⟨e', by omega, h5⟩
  · rw [h3]
    by_cases ee : e' = e
    · subst ee
      rw [hf, ht] at h6
      rw [if_pos (by omega)]
    · by_cases hs : s = f ∨ s = t
      · rw [if_pos hs]
      · rw [if_neg hs]; exact h.d e' s (by omega) h5 h6

/-- The second pass: the members: ss: the slots seen; sn: the nodes seen. -/
structure MtS (X : MD) (P : PS) (c j : Nat) (ss : Nat → Bool) (sn : Nat → Int) : Prop where
  a : ∀ s, ss s = true → ∃ c' j', (c' < c ∨ (c' = c ∧ j' < j)) ∧ c' < P.nC ∧ j' < P.mn c' ∧ P.mem c' j' = ((s : Nat) : Int)
  b : ∀ v c', v < X.n → c ≤ c' → sn v = ((c' : Nat) : Int) + 1 → c' = c ∧ ∃ j', j' < j ∧ j' < P.mn c ∧ P.node (P.mem c j').toNat = ((v : Nat) : Int)
theorem MtS.start (X : MD) (P : PS) : MtS X P 0 0 (fun _ => false) (fun _ => 0) :=
  ⟨fun s h => absurd h (by simp), fun v c' _ _ h => by have h : (0 : Int) = ((c' : Nat) : Int) + 1 := h; omega⟩
theorem MtS.skip {c j : Nat} {ss : Nat → Bool} {sn : Nat → Int} (h : MtS X P c j ss sn) : MtS X P (c + 1) 0 ss sn := by
  refine ⟨fun s hs => ?_, fun v c' hv hc hn => ?_⟩
  · obtain ⟨c', j', h1, h2⟩ := h.a s hs
    exact ⟨c', j', by omega, h2⟩
  · obtain ⟨h1, _⟩ := h.b v c' hv (by omega) hn
    omega
theorem MtS.fresh (hm : Meet X P) {c j : Nat} {ss : Nat → Bool} {sn : Nat → Int} (h : MtS X P c j ss sn) (hc : c < P.nC) (hj : j < P.mn c) {s v : Nat} (h1 : P.mem c j = ((s : Nat) : Int)) (h2 : P.node s = ((v : Nat) : Int)) (hv : v < X.n) : ss s = false ∧ sn v ≠ ((c : Nat) : Int) + 1 := by
  constructor
  · cases hs : ss s with
    | false => rfl
    | true =>
      exfalso
      obtain ⟨c', j', a1, a2, a3, a4⟩ := h.a s hs
      obtain ⟨s1, v1, _, b2, b3, _⟩ := hm.m1 c j hc hj
      obtain ⟨s2, v2, _, d2, d3, _⟩ := hm.m1 c' j' a2 a3
      have e1 : s1 = s := by rw [h1] at b2; omega
      have e2 : s2 = s := by rw [a4] at d2; omega
      subst e1
      subst e2
      have ec : c' = c := by rw [b3] at d3; omega
      subst ec
      have := hm.m2 c' j j' hc hj a3 (by rw [h1, a4])
      omega
  · intro hs
    obtain ⟨_, j', a1, a2, a3⟩ := h.b v c hv (Nat.le_refl _) hs
    have := hm.m2 c j j' hc hj a2 (by rw [h1, Int.toNat_natCast, h2, a3])
    omega
theorem MtS.next {c j : Nat} {ss : Nat → Bool} {sn : Nat → Int} (h : MtS X P c j ss sn) (hc : c < P.nC) (hj : j < P.mn c) {s v : Nat} (h1 : P.mem c j = ((s : Nat) : Int)) (h2 : P.node s = ((v : Nat) : Int)) : MtS X P c (j + 1) (upb ss s true) (upd sn v (((c : Nat) : Int) + 1)) := by
  refine ⟨fun s' hs => ?_, fun v' c' hv hcc hn => ?_⟩
  · by_cases e : s' = s
    · subst e; exact ⟨c, j, by omega, hc, hj, h1⟩
    · rw [upb_other _ _ e] at hs
      obtain ⟨c', j', a1, a2⟩ := h.a s' hs
      exact ⟨c', j', by omega, a2⟩
  · by_cases e : v' = v
    · subst e
      rw [upd_same] at hn
      exact ⟨by omega, j, by omega, hj, by rw [h1, Int.toNat_natCast, h2]⟩
    · rw [upd_other _ _ e] at hn
      obtain ⟨a1, j', a2, a3⟩ := h.b v' c' hv hcc hn
      exact ⟨a1, j', by omega, a3⟩
end

/-- A list of integers that a struct's field leads to. -/
def Rdi (w : World) (g i n : Nat) (f : Nat → Int) : Prop := ∃ o k, w.cell? ⟨g, i, none⟩ = some (.slice o n k) ∧ ∀ j, j < n → ∃ b, o = some ⟨b, 0, none⟩ ∧ n ≤ k ∧ w.cell? ⟨b, j, none⟩ = some (.int .i64 (f j))
def Rdb (w : World) (g i n : Nat) (f : Nat → Bool) : Prop := ∃ o k, w.cell? ⟨g, i, none⟩ = some (.slice o n k) ∧ ∀ j, j < n → ∃ b, o = some ⟨b, 0, none⟩ ∧ n ≤ k ∧ w.cell? ⟨b, j, none⟩ = some (.bool (f j))
/-- ... a list of lists. -/
def Rdl (w : World) (g i n : Nat) (m : Nat → Nat) (f : Nat → Nat → Int) : Prop := ∃ o k, w.cell? ⟨g, i, none⟩ = some (.slice o n k) ∧ ∀ j, j < n → ∃ b, o = some ⟨b, 0, none⟩ ∧ n ≤ k ∧ Rdi w b j (m j) (f j)
/-- ... whose empty lists are nil. -/
def Rdn (w : World) (g i n : Nat) (m : Nat → Nat) : Prop := ∀ o k, w.cell? ⟨g, i, none⟩ = some (.slice o n k) → ∀ j, j < n → ∃ b, o = some ⟨b, 0, none⟩ ∧ ∃ o' k', w.cell? ⟨b, j, none⟩ = some (.slice o' (m j) k') ∧ (o' = none ↔ m j = 0)

theorem Grew.cell {w w' : World} {D : Fam} (h : Grew Fam.nil w D w') {a : Addr} {v : Value} (hc : w.cell? a = some v) : w'.cell? a = some v := by
  have hlt := World.block_lt_of_cell? w _ hc
  have := h.block a.block hlt (fun i e => by cases e)
  rw [← hc]
  simp only [World.cell?, this]
theorem Rdi.at {w w' : World} {D : Fam} {g i n : Nat} {f : Nat → Int} (h : Rdi w g i n f) (hg : Grew Fam.nil w D w') {j : Nat} (hj : j < n) : ∃ b k, w'.cell? ⟨g, i, none⟩ = some (.slice (some ⟨b, 0, none⟩) n k) ∧ n ≤ k ∧ w'.cell? ⟨b, j, none⟩ = some (.int .i64 (f j)) := by
  obtain ⟨o, k, h1, h2⟩ := h
  obtain ⟨b, rfl, h3, h4⟩ := h2 j hj
  exact ⟨b, k, hg.cell h1, h3, hg.cell h4⟩
theorem Rdi.two {w w' : World} {D : Fam} {g i n : Nat} {f : Nat → Int} (h : Rdi w g i n f) (hg : Grew Fam.nil w D w') {j j' : Nat} (hj : j < n) (hj' : j' < n) : ∃ b k, w'.cell? ⟨g, i, none⟩ = some (.slice (some ⟨b, 0, none⟩) n k) ∧ n ≤ k ∧ w'.cell? ⟨b, j, none⟩ = some (.int .i64 (f j)) ∧ w'.cell? ⟨b, j', none⟩ = some (.int .i64 (f j')) := by
  obtain ⟨o, k, h1, h2⟩ := h
  obtain ⟨b, rfl, h3, h4⟩ := h2 j hj
  obtain ⟨b', e, h5, h6⟩ := h2 j' hj'
  injection e with e
  injection e with e
  subst e
  exact ⟨b, k, hg.cell h1, h3, hg.cell h4, hg.cell h6⟩
theorem Rdi.len {w w' : World} {D : Fam} {g i n : Nat} {f : Nat → Int} (h : Rdi w g i n f) (hg : Grew Fam.nil w D w') : ∃ o k, w'.cell? ⟨g, i, none⟩ = some (.slice o n k) := by
  obtain ⟨o, k, h1, h2⟩ := h
  exact ⟨o, k, hg.cell h1⟩
theorem Rdb.at {w w' : World} {D : Fam} {g i n : Nat} {f : Nat → Bool} (h : Rdb w g i n f) (hg : Grew Fam.nil w D w') {j : Nat} (hj : j < n) : ∃ b k, w'.cell? ⟨g, i, none⟩ = some (.slice (some ⟨b, 0, none⟩) n k) ∧ n ≤ k ∧ w'.cell? ⟨b, j, none⟩ = some (.bool (f j)) := by
  obtain ⟨o, k, h1, h2⟩ := h
  obtain ⟨b, rfl, h3, h4⟩ := h2 j hj
  exact ⟨b, k, hg.cell h1, h3, hg.cell h4⟩
theorem Rdl.at {w w' : World} {D : Fam} {g i n : Nat} {m : Nat → Nat} {f : Nat → Nat → Int} (h : Rdl w g i n m f) (hg : Grew Fam.nil w D w') {j : Nat} (hj : j < n) : ∃ b k o l, w'.cell? ⟨g, i, none⟩ = some (.slice (some ⟨b, 0, none⟩) n k) ∧ n ≤ k ∧ w'.cell? ⟨b, j, none⟩ = some (.slice o (m j) l) := by
  obtain ⟨o, k, h1, h2⟩ := h
  obtain ⟨b, rfl, h3, h4⟩ := h2 j hj
  obtain ⟨o', k', h5⟩ := h4.len hg
  exact ⟨b, k, o', k', hg.cell h1, h3, h5⟩
theorem Rdl.at2 {w w' : World} {D : Fam} {g i n : Nat} {m : Nat → Nat} {f : Nat → Nat → Int} (h : Rdl w g i n m f) (hg : Grew Fam.nil w D w') {j q : Nat} (hj : j < n) (hq : q < m j) : ∃ b k b' l, w'.cell? ⟨g, i, none⟩ = some (.slice (some ⟨b, 0, none⟩) n k) ∧ n ≤ k ∧ w'.cell? ⟨b, j, none⟩ = some (.slice (some ⟨b', 0, none⟩) (m j) l) ∧ m j ≤ l ∧ w'.cell? ⟨b', q, none⟩ = some (.int .i64 (f j q)) := by
  obtain ⟨o, k, h1, h2⟩ := h
  obtain ⟨b, rfl, h3, h4⟩ := h2 j hj
  obtain ⟨b', k', h5, h6, h7⟩ := h4.at hg hq
  exact ⟨b, k, b', k', hg.cell h1, h3, h5, h6, h7⟩
theorem Rdl.len {w w' : World} {D : Fam} {g i n : Nat} {m : Nat → Nat} {f : Nat → Nat → Int} (h : Rdl w g i n m f) (hg : Grew Fam.nil w D w') : ∃ o k, w'.cell? ⟨g, i, none⟩ = some (.slice o n k) := by
  obtain ⟨o, k, h1, h2⟩ := h
  exact ⟨o, k, hg.cell h1⟩
/-- A list that is nil; one that is not. -/
theorem Rdl.nil {w w' : World} {D : Fam} {g i n : Nat} {m : Nat → Nat} {f : Nat → Nat → Int} (h : Rdl w g i n m f) (hn : Rdn w g i n m) (hg : Grew Fam.nil w D w') {j : Nat} (hj : j < n) (h0 : m j = 0) : ∃ b k l, w'.cell? ⟨g, i, none⟩ = some (.slice (some ⟨b, 0, none⟩) n k) ∧ n ≤ k ∧ w'.cell? ⟨b, j, none⟩ = some (.slice none 0 l) := by
  obtain ⟨o, k, h1, h2⟩ := h
  obtain ⟨b, rfl, h3, h4⟩ := h2 j hj
  obtain ⟨b', e, o', k', h5, h6⟩ := hn _ k h1 j hj
  injection e with e
  injection e with e
  subst e
  rw [h6.2 h0, h0] at h5
  exact ⟨b, k, k', hg.cell h1, h3, hg.cell h5⟩

/-- What it is handed: gM, gW: the two structs' blocks. -/
structure MtIn (w : World) (gM gW : Nat) (X : MD) (P : PS) : Prop where
  m0 : w.cell? ⟨gM, 0, none⟩ = some (.int .i64 (X.n : Int))
  m1 : Rdi w gM 1 X.E (fun e => ((X.sr e : Nat) : Int))
  m2 : Rdi w gM 2 X.E (fun e => ((X.ds e : Nat) : Int))
  m3 : Rdb w gM 3 X.E X.onc
  m4 : ∃ f, Rdi w gM 4 X.E f ∧ ∀ e, e < X.E → X.onc e = true → f e = ((X.cls e : Nat) : Int)
  m5 : w.cell? ⟨gM, 5, none⟩ = some (.int .i64 (X.nc : Int))
  v0 : Rdi w gW 0 P.nE P.fr
  v1 : Rdi w gW 1 P.nE P.to
  v2 : Rdi w gW 2 P.nS P.node
  v3 : Rdi w gW 3 P.nS P.comp
  v4 : Rdl w gW 4 P.nS P.on P.out
  v5 : Rdl w gW 5 P.nC P.mn P.mem
  n5 : Rdn w gW 5 P.nC P.mn
  v6 : Rdi w gW 6 P.nC P.edg
  sm : X.E ≤ 4096 ∧ X.n ≤ 4096 ∧ P.nS ≤ 200000 ∧ P.nC ≤ 200000 ∧ X.nc ≤ 4096

/-- Its own rows. -/
def KM (i : Nat) : TypeId × Nat := if i = 6 ∨ i = 7 then (4, 1) else (3, 1)
end Go.Proofs.Qxb6602148a
