/-
  PLAIN: 'divide': the calls of 'split' one after another.
-/
import Derived.Test.Qxb6602148aSx
import Derived.Test.Qxb6602148aDv
attribute [local go_sem] Go.Proofs.Qxb6602148a.yTo Go.Proofs.Qxb6602148a.yUpon
namespace Go.Proofs.Qxb6602148a
set_option linter.unusedVariables false
set_option linter.unusedSimpArgs false

theorem pigeon : ∀ (b a : Nat) (f : Nat → Nat), (∀ i, i < a → f i < b) → (∀ i j, i < a → j < a → f i = f j → i = j) → a ≤ b
  | 0, a, f, h1, h2 => by
    rcases Nat.eq_zero_or_pos a with h | h
    · omega
    · have := h1 0 h; omega
  | b + 1, a, f, h1, h2 => by
    by_cases hex : ∃ i, i < a ∧ f i = b
    · obtain ⟨i0, hi0, he⟩ := hex
      have := pigeon b (a - 1) (fun i => if i < i0 then f i else f (i + 1)) (fun i hi => by
        by_cases hlt : i < i0
        · simp only [if_pos hlt]
          have h3 := h1 i (by omega)
          have h4 : f i ≠ b := fun e => by have := h2 i i0 (by omega) hi0 (by rw [e, he]); omega
          omega
        · simp only [if_neg hlt]
          have h3 := h1 (i + 1) (by omega)
          have h4 : f (i + 1) ≠ b := fun e => by have := h2 (i + 1) i0 (by omega) hi0 (by rw [e, he]); omega
          omega) (fun i j hi hj hij => by
        by_cases h3 : i < i0 <;> by_cases h4 : j < i0 <;> simp only [h3, h4, if_true, if_false] at hij
        · exact h2 i j (by omega) (by omega) hij
        · have := h2 i (j + 1) (by omega) (by omega) hij; omega
        · have := h2 (i + 1) j (by omega) (by omega) hij; omega
        · have := h2 (i + 1) (j + 1) (by omega) (by omega) hij; omega)
      omega
    · have := pigeon b a f (fun i hi => by
        have h3 := h1 i hi
        have h4 : f i ≠ b := fun e => hex ⟨i, hi, e⟩
        omega) h2
      omega

/-- Edge e lies between two of the slots, either way round. -/
def II (P : PS) (N : Nat) (str : Nat → Nat) (a e b : Nat) : Prop := Inn P N str a e b ∨ Inn P N str b e a
/-- No node parts e from e'. -/
def EqI (I : Nat → Nat → Nat → Prop) (e e' : Nat) : Prop := ∀ x a b a' b', I a e b → I a' e' b' → a ≠ x → a' ≠ x → Rch (fun u v => u ≠ x ∧ v ≠ x ∧ ∃ f, I u f v) a a'

theorem eqv_eqI {U : UG} {I : Nat → Nat → Nat → Prop} (h : ∀ a e b, U.inc a e b ↔ I a e b) (e e' : Nat) : U.Eqv e e' ↔ EqI I e e' := by
  have hI : U.inc = I := by
    funext a e b
    exact propext (h a e b)
  subst hI
  exact Iff.rfl

/-- The lists. -/
structure DL (P : PS) (K : Nat) (ln : Nat → Nat) (ls : Nat → Nat → Nat) : Prop where
  n2 : ∀ k, k < K → 2 ≤ ln k ∧ ln k ≤ 4096
  lt : ∀ k i, k < K → i < ln k → ls k i < P.nS
  inj : ∀ k i j, k < K → i < ln k → j < ln k → ls k i = ls k j → i = j
  old : ∀ k i, k < K → i < ln k → ∀ m, ls k i ≠ P.ns m
  dis : ∀ k k' i i', k < K → k' < K → i < ln k → i' < ln k' → ls k i = ls k' i' → k = k'
  edge : ∀ k i j, k < K → i < ln k → j < P.on (ls k i) → ∃ e t : Nat, P.out (ls k i) j = (e : Int) ∧ e < P.nE ∧ P.fr e = ((ls k i : Nat) : Int) ∧ P.to e = (t : Int) ∧ t < P.nS ∧ t ≠ ls k i
  incr : ∀ k i j j', k < K → i < ln k → j < j' → j' < P.on (ls k i) → P.out (ls k i) j < P.out (ls k i) j'
  conn : ∀ k a b, k < K → a < ln k → b < ln k → Rch (fun a b => ∃ e, II P (ln k) (ls k) a e b) a b
  sp : Spare P
  nE : P.nE ≤ 4096
  nS : P.nS ≤ 100000
  nC : P.nC ≤ 100000
  m0 : ∀ j, j < P.nU → P.mn (P.unused j).toNat = 0
  mks : 0 ≤ P.marks ∧ P.marks ≤ 500000
  mark : ∀ s, s < P.nS → P.mark s ≤ P.marks

/-- After k calls. -/
structure DV (PA : PS) (ln : Nat → Nat) (ls : Nat → Nat → Nat) (k : Nat) (P : PS) (L : LS) : Prop where
  lay : Lay PA P L
  tb : L.t ≤ 2 * cnt (nz L) PA.nE
  nbb : L.nb ≤ cnt (nz L) PA.nE
  mks : 0 ≤ P.marks ∧ P.marks ≤ PA.marks + (L.nb : Int)
  blk : ∀ e, L.blk e ≠ 0 ↔ ∃ k' a b, k' < k ∧ II PA (ln k') (ls k') a e b
  dn : ∀ e, L.dn e ↔ L.blk e ≠ 0
  eqv : ∀ k' e e', k' < k → (∃ a b, II PA (ln k') (ls k') a e b) → (∃ a b, II PA (ln k') (ls k') a e' b) → (L.blk e = L.blk e' ↔ EqI (II PA (ln k') (ls k')) e e')
  dif : ∀ k' k'' e e', k' < k → k'' < k → k' ≠ k'' → (∃ a b, II PA (ln k') (ls k') a e b) → (∃ a b, II PA (ln k'') (ls k'') a e' b) → L.blk e ≠ L.blk e'
  tou : ∀ t, t < L.t → ∃ e, L.blk e ≠ 0 ∧ (P.fr e = ((PA.ns t : Nat) : Int) ∨ P.to e = ((PA.ns t : Nat) : Int))
  full : ∀ β, 1 ≤ β → β ≤ L.nb → ∃ e, L.blk e = β

def LS.none : LS := { t := 0, nb := 0, kb := fun _ => 0, nu := fun _ => 0, blk := fun _ => 0, dn := fun _ => False }

section
variable {PA : PS} {K : Nat} {ln : Nat → Nat} {ls : Nat → Nat → Nat} {k : Nat} {P : PS} {L : LS}

theorem Lay.none (hm : ∀ s, s < PA.nS → PA.mark s ≤ PA.marks) : Lay PA PA LS.none where
  nE := rfl
  nK := rfl
  nQ := rfl
  nF := rfl
  nS := by show PA.nS = PA.nS + (0 - PA.nF); omega
  free := rfl
  nU := rfl
  nC := by show PA.nC = PA.nC + (0 - PA.nU); omega
  unused := rfl
  keep e _ := ⟨rfl, rfl⟩
  move e h := absurd rfl h
  kb0 := rfl
  kbm β hβ := Nat.le_refl _
  kbt := rfl
  nuinj β k k' hβ := by have hβ : β < 0 := hβ; omega
  node k hk := by have hk : k < 0 := hk; omega
  comp β k hβ := by have hβ : β < 0 := hβ; omega
  mn β hβ := by have hβ : β < 0 := hβ; omega
  mem β j hβ := by have hβ : β < 0 := hβ; omega
  edg β hβ := by have hβ : β < 0 := hβ; omega
  idx k hk := by have hk : k < 0 := hk; omega
  olds s _ := ⟨rfl, rfl, rfl, rfl, rfl⟩
  oldc c _ := ⟨rfl, rfl, rfl⟩
  mark := hm
  out1 k j hk := by have hk : k < 0 := hk; omega
  out2 k e hk := by have hk : k < 0 := hk; omega
  out3 k i j hk := by have hk : k < 0 := hk; omega

theorem DV.init (hl : DL PA K ln ls) : DV PA ln ls 0 PA LS.none := by
  refine ⟨Lay.none hl.mark, Nat.zero_le _, Nat.zero_le _, ⟨hl.mks.1, by show PA.marks ≤ PA.marks + ((0 : Nat) : Int); omega⟩, fun e => ⟨fun h => absurd rfl h, fun ⟨k', _, _, h, _⟩ => by omega⟩, fun e => ⟨fun h => h.elim, fun h => absurd rfl h⟩, fun k' e e' h => by omega, fun k' k'' e e' h => by omega, fun t h => by have h : t < 0 := h; omega, fun β h1 h2 => by have h2 : β ≤ 0 := h2; omega⟩

theorem DL.inn (hl : DL PA K ln ls) (hk : k < K) {a e b : Nat} (h : Inn PA (ln k) (ls k) a e b) : e < PA.nE ∧ PA.fr e = ((ls k a : Nat) : Int) := by
  obtain ⟨h1, h2, ⟨j, hj, hj2⟩, ht⟩ := h
  obtain ⟨e', t, a1, a2, a3, _⟩ := hl.edge k a j hk h1 hj
  have ee : e' = e := by rw [hj2] at a1; omega
  subst ee
  exact ⟨a2, a3⟩
/-- An edge takes part in one list only. -/
theorem DL.once (hl : DL PA K ln ls) {k k' : Nat} (hk : k < K) (hk' : k' < K) {e : Nat} (h : ∃ a b, II PA (ln k) (ls k) a e b) (h' : ∃ a b, II PA (ln k') (ls k') a e b) : k = k' := by
  have f : ∀ k, k < K → (∃ a b, II PA (ln k) (ls k) a e b) → ∃ a, a < ln k ∧ PA.fr e = ((ls k a : Nat) : Int) := by
    rintro k hk ⟨a, b, h | h⟩
    · exact ⟨a, h.1, (hl.inn hk h).2⟩
    · exact ⟨b, h.1, (hl.inn hk h).2⟩
  obtain ⟨a, a1, a2⟩ := f k hk h
  obtain ⟨b, b1, b2⟩ := f k' hk' h'
  exact hl.dis k k' a b hk hk' a1 b1 (by rw [a2] at b2; omega)

/-- What the next call is handed. -/
theorem DV.go (h : DV PA ln ls k P L) (hl : DL PA K ln ls) (hk : k < K) : SGo PA P L (ln k) (ls k) := by
  have nb := h.nbb
  have cl := cnt_le (nz L) PA.nE
  have nE := hl.nE
  have mk := hl.mks
  have hm := h.mks
  have n2 := hl.n2 k hk
  refine ⟨h.lay, hl.sp, hl.nE, hl.nS, hl.nC, hl.m0, ⟨by omega, n2.2⟩, fun i hi => hl.lt k i hk hi, fun i j => hl.inj k i j hk, fun i hi m => hl.old k i hk hi m, ⟨hm.1, hm.2, by omega⟩, h.tb, h.nbb, fun i j hi hj => ?_, fun i j j' hi => hl.incr k i j j' hk hi, fun a b ha hb => hl.conn k a b hk ha hb⟩
  obtain ⟨e, t, a1, a2, a3, a4, a5, a6⟩ := hl.edge k i j hk hi hj
  have hb : L.blk e = 0 := by
    by_cases hb : L.blk e = 0
    · exact hb
    · obtain ⟨k', a, b, hk', hI⟩ := (h.blk e).1 hb
      have : ∃ i', i' < ln k' ∧ PA.fr e = ((ls k' i' : Nat) : Int) := by
        rcases hI with h1 | h1
        · exact ⟨a, h1.1, (hl.inn (by omega) h1).2⟩
        · exact ⟨b, h1.1, (hl.inn (by omega) h1).2⟩
      obtain ⟨i', i1, i2⟩ := this
      have := hl.dis k k' i i' hk (by omega) hi i1 (by rw [a3] at i2; omega)
      omega
  exact ⟨e, t, a1, a2, a3, a4, a5, a6, hb, fun hd => (h.dn e).1 hd hb⟩

/-- Where an edge lies does not change behind its call. -/
theorem Lay.fr_same {P' : PS} {L' : LS} (h : Lay PA P L) (h' : Lay PA P' L') (hs : Spare PA) {e : Nat} (he : L.blk e ≠ 0) (eb : L'.blk e = L.blk e) (kbo : ∀ β, β ≤ L.nb → L'.kb β = L.kb β) (nuo : ∀ k, k < L.t → L'.nu k = L.nu k) (nb : L.nb ≤ L'.nb) : P'.fr e = P.fr e ∧ P'.to e = P.to e := by
  obtain ⟨a1, a2, k, k', a3, a4, a5, a6, a7, a8, a9, a10⟩ := h.move e he
  obtain ⟨b1, b2, l, l', b3, b4, b5, b6, b7, b8, b9, b10⟩ := h'.move e (by rw [eb]; exact he)
  rw [eb, kbo _ (by omega)] at b3 b5
  rw [eb, kbo _ (by omega)] at b4 b6
  have hkt := h.kle a1
  have key : ∀ x y, L.kb (L.blk e - 1) ≤ x → x < L.kb (L.blk e) → L.kb (L.blk e - 1) ≤ y → y < L.kb (L.blk e) → L.nu x = L'.nu y → x = y := by
    intro x y x1 x2 y1 y2 hxy
    rw [nuo y (by omega)] at hxy
    exact h.nuinj (L.blk e - 1) x y (by omega) x1 (by rw [show L.blk e - 1 + 1 = L.blk e by omega]; exact x2) y1 (by rw [show L.blk e - 1 + 1 = L.blk e by omega]; exact y2) hxy
  have e1 := key k l a3 a4 b3 b4 (by rw [a9] at b9; omega)
  have e2 := key k' l' a5 a6 b5 b6 (by rw [a10] at b10; omega)
  subst e1 e2
  exact ⟨b7.trans a7.symm, b8.trans a8.symm⟩

theorem DV.next (h : DV PA ln ls k P L) (hl : DL PA K ln ls) (hk : k < K) {S : SS} (hS : SEnd PA L (ln k) (ls k) S) : DV PA ln ls (k + 1) S.P S.L := by
  obtain ⟨U, s, ok, hN, hU, po, mk⟩ := hS
  have hU' : ∀ a e b, U.inc a e b ↔ II PA (ln k) (ls k) a e b := hU
  have inU : ∀ e, (∃ a b, U.inc a e b) ↔ ∃ a b, II PA (ln k) (ls k) a e b := fun e => ⟨fun ⟨a, b, h⟩ => ⟨a, b, (hU' a e b).1 h⟩, fun ⟨a, b, h⟩ => ⟨a, b, (hU' a e b).2 h⟩⟩
  have n2 := hl.n2 k hk
  -- there is an edge
  obtain ⟨e0, he0⟩ : ∃ e, ∃ a b, U.inc a e b := by
    by_cases hex : ∃ e, ∃ a b, U.inc a e b
    · exact hex
    · exfalso
      have := hl.conn k 0 1 hk (by omega) (by omega) (fun x => x = 0) rfl (fun x y hx ⟨e, he⟩ => absurd ⟨e, x, y, (hU' x e y).2 he⟩ hex)
      omega
  have hs1 := po.blk e0 he0
  have notin : ∀ k' e, k' < k → (∃ a b, II PA (ln k') (ls k') a e b) → ¬ ∃ a b, U.inc a e b := by
    intro k' e hk' h1 h2
    have := hl.once (by omega) hk h1 ((inU e).1 h2)
    omega
  have ble := h.lay.blk_le
  refine ⟨po.lay, po.tb, po.nbb, ⟨po.mks, by rw [po.nb]; have := mk; omega⟩, fun e => ?_, fun e => ?_, fun k' e e' hk' h1 h2 => ?_, fun k' k'' e e' hk' hk'' hne h1 h2 => ?_, fun t ht => ?_, fun β h1 h2 => ?_⟩
  · by_cases hi : ∃ a b, U.inc a e b
    · have := po.blk e hi
      refine ⟨fun _ => ?_, fun _ => by omega⟩
      obtain ⟨a, b, hI⟩ := (inU e).1 hi
      exact ⟨k, a, b, by omega, hI⟩
    · rw [po.blko e hi, h.blk e]
      constructor
      · rintro ⟨k', a, b, h1, h2⟩; exact ⟨k', a, b, by omega, h2⟩
      · rintro ⟨k', a, b, h1, h2⟩
        by_cases e1 : k' = k
        · subst e1; exact absurd ⟨a, b, (hU' a e b).2 h2⟩ hi
        · exact ⟨k', a, b, by omega, h2⟩
  · rw [po.dn e]
    by_cases hi : ∃ a b, U.inc a e b
    · have := po.blk e hi
      exact ⟨fun _ => by omega, fun _ => .inr hi⟩
    · rw [po.blko e hi, ← h.dn e]
      exact ⟨fun h1 => h1.elim id (fun h2 => absurd h2 hi), .inl⟩
  · by_cases e1 : k' = k
    · subst e1
      have b1 := po.blk e ((inU e).2 h1)
      have b2 := po.blk e' ((inU e').2 h2)
      rw [b1.1, b2.1, ← eqv_eqI hU', ← po.eqv e e' ((inU e).2 h1) ((inU e').2 h2)]
      omega
    · rw [po.blko e (notin k' e (by omega) h1), po.blko e' (notin k' e' (by omega) h2)]
      exact h.eqv k' e e' (by omega) h1 h2
  · by_cases e1 : k' = k <;> by_cases e2 : k'' = k
    · omega
    · subst e1
      have b1 := po.blk e ((inU e).2 h1)
      rw [b1.1, po.blko e' (notin k'' e' (by omega) h2)]
      have := ble e'
      omega
    · subst e2
      have b1 := po.blk e' ((inU e').2 h2)
      rw [b1.1, po.blko e (notin k' e (by omega) h1)]
      have := ble e
      omega
    · rw [po.blko e (notin k' e (by omega) h1), po.blko e' (notin k'' e' (by omega) h2)]
      exact h.dif k' k'' e e' (by omega) (by omega) hne h1 h2
  · rcases Nat.lt_or_ge t L.t with hlt | hge
    · obtain ⟨e, e1, e2⟩ := h.tou t hlt
      obtain ⟨k', a, b, hk', hI⟩ := (h.blk e).1 e1
      have hno := notin k' e hk' ⟨a, b, hI⟩
      have eb := po.blko e hno
      obtain ⟨f1, f2⟩ := h.lay.fr_same po.lay hl.sp e1 eb po.kbo po.nuo (by rw [po.nb]; omega)
      exact ⟨e, by rw [eb]; exact e1, by rw [f1, f2]; exact e2⟩
    · exact po.tou t hge ht
  · rcases Nat.lt_or_ge L.nb β with hlt | hge
    · exact po.full β hlt h2
    · obtain ⟨e, e1⟩ := h.full β h1 hge
      have he : L.blk e ≠ 0 := by omega
      obtain ⟨k', a, b, hk', hI⟩ := (h.blk e).1 he
      exact ⟨e, by rw [po.blko e (notin k' e hk' ⟨a, b, hI⟩)]; exact e1⟩
end
end Go.Proofs.Qxb6602148a
