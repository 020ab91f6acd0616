/-
  PLAIN: WHAT 'split' LAYS OUT: new slots and components over a plain state P0. The k-th new slot is P0.ns k, the β-th new component P0.cs β: both are known beforehand.
-/
import Derived.Test.Qxb6602148aPM2
import Derived.Test.Qxb6602148aHT
namespace Go.Proofs.Qxb6602148a
set_option linter.unusedVariables false

/-- How many e below n. -/
def cnt (p : Nat → Bool) : Nat → Nat
  | 0 => 0
  | n + 1 => cnt p n + (if p n then 1 else 0)
theorem cnt_le (p : Nat → Bool) : ∀ n, cnt p n ≤ n
  | 0 => Nat.le_refl _
  | n + 1 => by
    have := cnt_le p n
    simp only [cnt]
    split <;> omega
theorem cnt_congr {p q : Nat → Bool} : ∀ n, (∀ e, e < n → p e = q e) → cnt p n = cnt q n
  | 0, _ => rfl
  | n + 1, h => by simp only [cnt]; rw [cnt_congr n (fun e he => h e (by omega)), h n (by omega)]
theorem cnt_add {p q : Nat → Bool} {x : Nat} : ∀ n, x < n → (∀ e, e ≠ x → q e = p e) → p x = false → q x = true → cnt q n = cnt p n + 1
  | 0, h, _, _, _ => by omega
  | n + 1, h, h1, h2, h3 => by
    simp only [cnt]
    by_cases e : x = n
    · subst e
      rw [cnt_congr x (fun e he => h1 e (by omega)), h2, h3]; simp
    · rw [cnt_add n (by omega) h1 h2 h3, h1 n (by omega)]; omega
theorem cnt_none {p : Nat → Bool} : ∀ n, (∀ e, e < n → p e = false) → cnt p n = 0
  | 0, _ => rfl
  | n + 1, h => by simp only [cnt]; rw [cnt_none n (fun e he => h e (by omega)), h n (by omega)]; simp
theorem cnt_mono {p q : Nat → Bool} : ∀ n, (∀ e, e < n → p e = true → q e = true) → cnt p n ≤ cnt q n
  | 0, _ => Nat.le_refl _
  | n + 1, h => by
    have := cnt_mono n (fun e he => h e (by omega))
    have h2 := h n (by omega)
    simp only [cnt]
    cases hp : p n <;> cases hq : q n <;> simp [hp, hq] at h2 ⊢ <;> omega

def PS.reuse (P : PS) (c : Nat) : PS := { P with nU := P.nU - 1, edg := upd P.edg c 0, spent := upd P.spent c 0 }
def PS.slotNo (P : PS) : Nat := if P.nF = 0 then P.nS else (P.free (P.nF - 1)).toNat
def PS.newSlot (P : PS) (v : Int) (c : Nat) : PS := if P.nF = 0 then (P.pushSlot v c).pushMem c (P.slotNo : Nat) else (({ P with nF := P.nF - 1 } : PS).reset P.slotNo v c).pushMem c (P.slotNo : Nat)
def PS.compNo (P : PS) : Nat := if P.nU = 0 then P.nC else (P.unused (P.nU - 1)).toNat
def PS.newComp (P : PS) : PS := if P.nU = 0 then P.grow else P.reuse P.compNo

/-- The k-th slot that 'newSlot' will hand out; the β-th component. -/
def PS.ns (P : PS) (k : Nat) : Nat := if k < P.nF then (P.free (P.nF - 1 - k)).toNat else P.nS + (k - P.nF)
def PS.cs (P : PS) (β : Nat) : Nat := if β < P.nU then (P.unused (P.nU - 1 - β)).toNat else P.nC + (β - P.nU)

/-- What holds of the lists of spare slots and components. -/
structure Spare (P : PS) : Prop where
  f1 : ∀ j, j < P.nF → 0 ≤ P.free j ∧ P.free j < P.nS
  f2 : ∀ i j, i < P.nF → j < P.nF → P.free i = P.free j → i = j
  u1 : ∀ j, j < P.nU → 0 ≤ P.unused j ∧ P.unused j < P.nC
  u2 : ∀ i j, i < P.nU → j < P.nU → P.unused i = P.unused j → i = j

theorem Spare.ns_inj {P : PS} (h : Spare P) {k k' : Nat} (e : P.ns k = P.ns k') : k = k' := by
  unfold PS.ns at e
  by_cases h1 : k < P.nF <;> by_cases h2 : k' < P.nF <;> simp only [h1, h2, if_true, if_false] at e
  · have a := h.f1 (P.nF - 1 - k) (by omega)
    have b := h.f1 (P.nF - 1 - k') (by omega)
    have := h.f2 (P.nF - 1 - k) (P.nF - 1 - k') (by omega) (by omega) (by omega)
    omega
  · have a := h.f1 (P.nF - 1 - k) (by omega)
    omega
  · have a := h.f1 (P.nF - 1 - k') (by omega)
    omega
  · omega
theorem Spare.cs_inj {P : PS} (h : Spare P) {k k' : Nat} (e : P.cs k = P.cs k') : k = k' := by
  unfold PS.cs at e
  by_cases h1 : k < P.nU <;> by_cases h2 : k' < P.nU <;> simp only [h1, h2, if_true, if_false] at e
  · have a := h.u1 (P.nU - 1 - k) (by omega)
    have b := h.u1 (P.nU - 1 - k') (by omega)
    have := h.u2 (P.nU - 1 - k) (P.nU - 1 - k') (by omega) (by omega) (by omega)
    omega
  · have a := h.u1 (P.nU - 1 - k) (by omega)
    omega
  · have a := h.u1 (P.nU - 1 - k') (by omega)
    omega
  · omega

/-- t: new slots so far; nb: new components so far; those of component β are kb β .. kb (β+1) - 1; nu k: the slot that the k-th new one stands for; blk e: the component, from 1, that edge e was moved to; dn: the edges listed at their new slots. -/
structure LS where
  t : Nat
  nb : Nat
  kb : Nat → Nat
  nu : Nat → Nat
  blk : Nat → Nat
  dn : Nat → Prop

structure Lay (P0 P : PS) (L : LS) : Prop where
  nE : P.nE = P0.nE
  nK : P.nK = P0.nK
  nQ : P.nQ = P0.nQ
  nF : P.nF = P0.nF - L.t
  nS : P.nS = P0.nS + (L.t - P0.nF)
  free : P.free = P0.free
  nU : P.nU = P0.nU - L.nb
  nC : P.nC = P0.nC + (L.nb - P0.nU)
  unused : P.unused = P0.unused
  keep : ∀ e, L.blk e = 0 → P.fr e = P0.fr e ∧ P.to e = P0.to e
  move : ∀ e, L.blk e ≠ 0 → L.blk e ≤ L.nb ∧ e < P0.nE ∧ ∃ k k', L.kb (L.blk e - 1) ≤ k ∧ k < L.kb (L.blk e) ∧ L.kb (L.blk e - 1) ≤ k' ∧ k' < L.kb (L.blk e) ∧ P.fr e = P0.ns k ∧ P.to e = P0.ns k' ∧ P0.fr e = L.nu k ∧ P0.to e = L.nu k'
  kb0 : L.kb 0 = 0
  kbm : ∀ β, β < L.nb → L.kb β ≤ L.kb (β + 1)
  kbt : L.kb L.nb = L.t
  nuinj : ∀ β k k', β < L.nb → L.kb β ≤ k → k < L.kb (β + 1) → L.kb β ≤ k' → k' < L.kb (β + 1) → L.nu k = L.nu k' → k = k'
  node : ∀ k, k < L.t → P.node (P0.ns k) = P0.node (L.nu k)
  comp : ∀ β k, β < L.nb → L.kb β ≤ k → k < L.kb (β + 1) → P.comp (P0.ns k) = P0.cs β
  mn : ∀ β, β < L.nb → P.mn (P0.cs β) = L.kb (β + 1) - L.kb β
  mem : ∀ β j, β < L.nb → j < L.kb (β + 1) - L.kb β → P.mem (P0.cs β) j = P0.ns (L.kb β + j)
  edg : ∀ β, β < L.nb → P.edg (P0.cs β) = (cnt (fun e => L.blk e == β + 1) P0.nE : Nat)
  idx : ∀ k, k < L.t → P.idx (P0.ns k) = 0
  olds : ∀ s, (∀ k, k < L.t → s ≠ P0.ns k) → P.node s = P0.node s ∧ P.comp s = P0.comp s ∧ P.idx s = P0.idx s ∧ P.on s = P0.on s ∧ P.out s = P0.out s
  oldc : ∀ c, (∀ β, β < L.nb → c ≠ P0.cs β) → P.mn c = P0.mn c ∧ P.mem c = P0.mem c ∧ P.edg c = P0.edg c
  mark : ∀ s, s < P.nS → P.mark s ≤ P.marks
  out1 : ∀ k j, k < L.t → j < P.on (P0.ns k) → ∃ e, P.out (P0.ns k) j = (e : Nat) ∧ L.blk e ≠ 0 ∧ L.dn e ∧ P.fr e = P0.ns k
  out2 : ∀ k e, k < L.t → L.blk e ≠ 0 → L.dn e → P.fr e = P0.ns k → ∃ j, j < P.on (P0.ns k) ∧ P.out (P0.ns k) j = (e : Nat)
  out3 : ∀ k i j, k < L.t → i < j → j < P.on (P0.ns k) → P.out (P0.ns k) i < P.out (P0.ns k) j

section
variable {P0 P : PS} {L : LS}

theorem Lay.slotNo (h : Lay P0 P L) : P.slotNo = P0.ns L.t := by
  unfold PS.slotNo PS.ns
  rw [h.nF, h.free, h.nS]
  by_cases e : L.t < P0.nF
  · rw [if_neg (by omega), if_pos e, show P0.nF - L.t - 1 = P0.nF - 1 - L.t by omega]
  · rw [if_pos (by omega), if_neg e]
theorem Lay.compNo (h : Lay P0 P L) : P.compNo = P0.cs L.nb := by
  unfold PS.compNo PS.cs
  rw [h.nU, h.unused, h.nC]
  by_cases e : L.nb < P0.nU
  · rw [if_neg (by omega), if_pos e, show P0.nU - L.nb - 1 = P0.nU - 1 - L.nb by omega]
  · rw [if_pos (by omega), if_neg e]
theorem Lay.ns_lt (h : Lay P0 P L) (hs : Spare P0) {k : Nat} (hk : k < L.t) : P0.ns k < P.nS := by
  unfold PS.ns
  rw [h.nS]
  by_cases e : k < P0.nF
  · have a := hs.f1 (P0.nF - 1 - k) (by omega)
    rw [if_pos e]; omega
  · rw [if_neg e]; omega
theorem Lay.cs_lt (h : Lay P0 P L) (hs : Spare P0) {k : Nat} (hk : k < L.nb) : P0.cs k < P.nC := by
  unfold PS.cs
  rw [h.nC]
  by_cases e : k < P0.nU
  · have a := hs.u1 (P0.nU - 1 - k) (by omega)
    rw [if_pos e]; omega
  · rw [if_neg e]; omega

/-- What 'newSlot' does, field by field. -/
theorem PS.newSlot_facts (P : PS) (v : Int) (c : Nat) : (P.newSlot v c).nE = P.nE ∧ (P.newSlot v c).nK = P.nK ∧ (P.newSlot v c).nQ = P.nQ ∧ (P.newSlot v c).nF = P.nF - 1 ∧ (P.newSlot v c).nS = P.nS + (1 - P.nF) ∧ (P.newSlot v c).free = P.free ∧
    (P.newSlot v c).nU = P.nU ∧ (P.newSlot v c).nC = P.nC ∧ (P.newSlot v c).unused = P.unused ∧ (P.newSlot v c).fr = P.fr ∧ (P.newSlot v c).to = P.to ∧ (P.newSlot v c).edg = P.edg ∧ (P.newSlot v c).marks = P.marks := by
  unfold PS.newSlot
  by_cases e : P.nF = 0
  · rw [if_pos e]
    refine ⟨rfl, rfl, rfl, ?_, ?_, rfl, rfl, rfl, rfl, rfl, rfl, rfl, rfl⟩
    · show P.nF = P.nF - 1; omega
    · show P.nS + 1 = P.nS + (1 - P.nF); omega
  · rw [if_neg e]
    refine ⟨rfl, rfl, rfl, rfl, ?_, rfl, rfl, rfl, rfl, rfl, rfl, rfl, rfl⟩
    · show P.nS = P.nS + (1 - P.nF); omega
theorem PS.newSlot_slot (P : PS) (v : Int) (c : Nat) : (P.newSlot v c).node = upd P.node P.slotNo v ∧ (P.newSlot v c).comp = upd P.comp P.slotNo c ∧ (P.newSlot v c).idx = upd P.idx P.slotNo 0 ∧ (P.newSlot v c).mark = upd P.mark P.slotNo 0 ∧ (P.newSlot v c).loc = upd P.loc P.slotNo 0 ∧ (P.newSlot v c).on = upn P.on P.slotNo 0 ∧
    (P.newSlot v c).out = P.out ∧ (P.newSlot v c).mn = upn P.mn c (P.mn c + 1) ∧ (P.newSlot v c).mem = fun k => if k = c then upd (P.mem c) (P.mn c) (P.slotNo : Nat) else P.mem k := by
  unfold PS.newSlot
  by_cases e : P.nF = 0
  · rw [if_pos e]
    have : P.slotNo = P.nS := by unfold PS.slotNo; rw [if_pos e]
    rw [this]
    exact ⟨rfl, rfl, rfl, rfl, rfl, rfl, rfl, rfl, rfl⟩
  · rw [if_neg e]
    exact ⟨rfl, rfl, rfl, rfl, rfl, rfl, rfl, rfl, rfl⟩

/-- A new slot for u, in the component that was made last. -/
theorem Lay.slot (h : Lay P0 P L) (hs : Spare P0) (hnb : 0 < L.nb) (u : Nat) (hu : ∀ k, u ≠ P0.ns k) (hfr : ∀ k, L.kb (L.nb - 1) ≤ k → k < L.t → L.nu k ≠ u) (hmk : 0 ≤ P.marks) :
    Lay P0 (P.newSlot (P.node u) (P0.cs (L.nb - 1))) { L with t := L.t + 1, kb := up L.kb L.nb (L.t + 1), nu := up L.nu L.t u } := by
  obtain ⟨a1, a2, a3, a4, a5, a6, a7, a8, a9, a10, a11, a12, a13⟩ := P.newSlot_facts (P.node u) (P0.cs (L.nb - 1))
  obtain ⟨b1, b2, b3, b4, b5, b6, b7, b8, b9⟩ := P.newSlot_slot (P.node u) (P0.cs (L.nb - 1))
  have sn := h.slotNo
  have knb : ∀ β, β < L.nb → up L.kb L.nb (L.t + 1) β = L.kb β := fun β hβ => up_other _ _ (by omega)
  have kt : up L.kb L.nb (L.t + 1) L.nb = L.t + 1 := up_same _ _ _
  have kbt := h.kbt
  have kle : ∀ β, β ≤ L.nb → L.kb β ≤ L.t := by
    have : ∀ n β, β + n = L.nb → L.kb β ≤ L.t := by
      intro n
      induction n with
      | zero => intro β hβ; rw [show β = L.nb by omega, kbt]; exact Nat.le_refl _
      | succ n ih => intro β hβ; exact Nat.le_trans (h.kbm β (by omega)) (ih (β + 1) (by omega))
    exact fun β hβ => this (L.nb - β) β (by omega)
  -- the range of a component: as before, or the last one's, one longer
  have rng : ∀ β k, β < L.nb → up L.kb L.nb (L.t + 1) β ≤ k → k < up L.kb L.nb (L.t + 1) (β + 1) → (L.kb β ≤ k ∧ k < L.kb (β + 1)) ∨ (k = L.t ∧ β = L.nb - 1) := by
    intro β k hβ h1 h2
    rw [knb β hβ] at h1
    by_cases e : β + 1 = L.nb
    · rw [e, kt] at h2
      by_cases e2 : k = L.t
      · exact .inr ⟨e2, by omega⟩
      · refine .inl ⟨h1, ?_⟩
        rw [e, kbt]; omega
    · rw [knb (β + 1) (by omega)] at h2; exact .inl ⟨h1, h2⟩
  have rngt : ∀ β k, β < L.nb → L.kb β ≤ k → k < L.kb (β + 1) → k < L.t := fun β k hβ _ h2 => Nat.lt_of_lt_of_le h2 (kle _ (by omega))
  have nso : ∀ k, k < L.t → up L.nu L.t u k = L.nu k := fun k hk => up_other _ _ (by omega)
  have nss : up L.nu L.t u L.t = u := up_same _ _ _
  have nsn : ∀ k, k < L.t → P0.ns k ≠ P0.ns L.t := fun k hk e => by have := hs.ns_inj e; omega
  have csn : ∀ β, β < L.nb → β ≠ L.nb - 1 → P0.cs β ≠ P0.cs (L.nb - 1) := fun β hβ h1 e => h1 (hs.cs_inj e)
  have wid : ∀ β k, L.kb β ≤ k → k < L.kb (β + 1) → β < L.nb → up L.kb L.nb (L.t + 1) β ≤ k ∧ k < up L.kb L.nb (L.t + 1) (β + 1) := by
    intro β k h1 h2 hβ
    refine ⟨by rw [knb β hβ]; exact h1, ?_⟩
    by_cases e : β + 1 = L.nb
    · rw [e, kt]; have := rngt β k hβ h1 h2; omega
    · rw [knb (β + 1) (by omega)]; exact h2
  refine ⟨a1.trans h.nE, a2.trans h.nK, a3.trans h.nQ, ?_, ?_, a6.trans h.free, a7.trans h.nU, a8.trans h.nC, a9.trans h.unused, ?_, ?_, ?_, ?_, kt, ?_, ?_, ?_, ?_, ?_, ?_, ?_, ?_, ?_, ?_, ?_, ?_, ?_⟩
  · rw [a4, h.nF]; show _ = P0.nF - (L.t + 1); omega
  · rw [a5, h.nF, h.nS]; show _ = P0.nS + (L.t + 1 - P0.nF); omega
  · intro e he; rw [a10, a11]; exact h.keep e he
  · intro e he
    obtain ⟨m1, m2, k, k', m3, m4, m5, m6, m7, m8, m9, m10⟩ := h.move e he
    have m0 : L.blk e ≠ 0 := he
    have hkt := rngt (L.blk e - 1) k (by omega) m3 (by rw [show L.blk e - 1 + 1 = L.blk e by omega]; exact m4)
    have hkt' := rngt (L.blk e - 1) k' (by omega) m5 (by rw [show L.blk e - 1 + 1 = L.blk e by omega]; exact m6)
    have w1 := wid (L.blk e - 1) k m3 (by rw [show L.blk e - 1 + 1 = L.blk e by omega]; exact m4) (by omega)
    have w2 := wid (L.blk e - 1) k' m5 (by rw [show L.blk e - 1 + 1 = L.blk e by omega]; exact m6) (by omega)
    rw [show L.blk e - 1 + 1 = L.blk e by omega] at w1 w2
    refine ⟨m1, m2, k, k', w1.1, w1.2, w2.1, w2.2, by rw [a10]; exact m7, by rw [a11]; exact m8, ?_, ?_⟩
    · show _ = ((up L.nu L.t u k : Nat) : Int)
      rw [nso k hkt]; exact m9
    · show _ = ((up L.nu L.t u k' : Nat) : Int)
      rw [nso k' hkt']; exact m10
  · show up L.kb L.nb (L.t + 1) 0 = 0
    rw [knb 0 (by omega)]; exact h.kb0
  · intro β hβ
    have hβ : β < L.nb := hβ
    show up L.kb L.nb (L.t + 1) β ≤ up L.kb L.nb (L.t + 1) (β + 1)
    rw [knb β hβ]
    by_cases e : β + 1 = L.nb
    · rw [e, kt]; have := kle β (by omega); omega
    · rw [knb (β + 1) (by omega)]; exact h.kbm β hβ
  · intro β k k' hβ h1 h2 h3 h4 he
    have hβ : β < L.nb := hβ
    have he : up L.nu L.t u k = up L.nu L.t u k' := he
    rcases rng β k hβ h1 h2 with ⟨c1, c2⟩ | ⟨c1, c2⟩ <;> rcases rng β k' hβ h3 h4 with ⟨d1, d2⟩ | ⟨d1, d2⟩
    · rw [nso k (rngt β k hβ c1 c2), nso k' (rngt β k' hβ d1 d2)] at he
      exact h.nuinj β k k' hβ c1 c2 d1 d2 he
    · exfalso
      rw [d1, nss, nso k (rngt β k hβ c1 c2)] at he
      exact hfr k (by rw [← d2]; exact c1) (rngt β k hβ c1 c2) he
    · exfalso
      rw [c1, nss, nso k' (rngt β k' hβ d1 d2)] at he
      exact hfr k' (by rw [← c2]; exact d1) (rngt β k' hβ d1 d2) he.symm
    · omega
  · intro k hk
    have hk : k < L.t + 1 := hk
    rw [b1, sn]
    show _ = P0.node (up L.nu L.t u k)
    by_cases e : k = L.t
    · subst e
      rw [upd_same, nss]
      exact (h.olds u (fun k _ => hu k)).1
    · rw [upd_other _ _ (nsn k (by omega)), nso k (by omega)]; exact h.node k (by omega)
  · intro β k hβ h1 h2
    have hβ : β < L.nb := hβ
    rw [b2, sn]
    rcases rng β k hβ h1 h2 with ⟨c1, c2⟩ | ⟨c1, c2⟩
    · rw [upd_other _ _ (nsn k (rngt β k hβ c1 c2))]; exact h.comp β k hβ c1 c2
    · rw [c1, upd_same, c2]
  · intro β hβ
    have hβ : β < L.nb := hβ
    rw [b8]
    show _ = up L.kb L.nb (L.t + 1) (β + 1) - up L.kb L.nb (L.t + 1) β
    rw [knb β hβ]
    by_cases e : β = L.nb - 1
    · subst e
      rw [upn_same, h.mn _ hβ, show L.nb - 1 + 1 = L.nb by omega, kt, kbt]
      have := kle (L.nb - 1) (by omega)
      omega
    · rw [upn_other _ _ (csn β hβ e), knb (β + 1) (by omega)]; exact h.mn β hβ
  · intro β j hβ hj
    have hβ : β < L.nb := hβ
    have hj : j < up L.kb L.nb (L.t + 1) (β + 1) - up L.kb L.nb (L.t + 1) β := hj
    rw [b9]
    show _ = ((P0.ns (up L.kb L.nb (L.t + 1) β + j) : Nat) : Int)
    rw [knb β hβ] at hj ⊢
    have mnl := h.mn (L.nb - 1) (by omega)
    rw [show L.nb - 1 + 1 = L.nb by omega, kbt] at mnl
    by_cases e : β = L.nb - 1
    · subst e
      rw [show L.nb - 1 + 1 = L.nb by omega, kt] at hj
      dsimp only
      rw [if_pos rfl, mnl, sn]
      have := kle (L.nb - 1) (by omega)
      by_cases e2 : j = L.t - L.kb (L.nb - 1)
      · subst e2; rw [upd_same, show L.kb (L.nb - 1) + (L.t - L.kb (L.nb - 1)) = L.t by omega]
      · rw [upd_other _ _ e2]
        exact h.mem _ j (by omega) (by rw [show L.nb - 1 + 1 = L.nb by omega, kbt]; omega)
    · rw [knb (β + 1) (by omega)] at hj
      dsimp only
      rw [if_neg (csn β hβ e)]
      exact h.mem β j hβ hj
  · intro β hβ; rw [a12]; exact h.edg β hβ
  · intro k hk
    have hk : k < L.t + 1 := hk
    rw [b3, sn]
    by_cases e : k = L.t
    · subst e; rw [upd_same]
    · rw [upd_other _ _ (nsn k (by omega))]; exact h.idx k (by omega)
  · intro s hne
    have hne : ∀ k, k < L.t + 1 → s ≠ P0.ns k := hne
    have e := hne L.t (by omega)
    rw [b1, b2, b3, b6, b7, sn, upd_other _ _ e, upd_other _ _ e, upd_other _ _ e, upn_other _ _ e]
    exact h.olds s (fun k hk => hne k (by omega))
  · intro c hne
    have hne : ∀ β, β < L.nb → c ≠ P0.cs β := hne
    have e := hne (L.nb - 1) (by omega)
    rw [b8, b9, a12, upn_other _ _ e]
    show _ ∧ (if c = P0.cs (L.nb - 1) then _ else _) = _ ∧ _
    rw [if_neg e]
    exact h.oldc c hne
  · intro s hlt
    rw [b4, a13, sn]
    rw [a5, h.nF] at hlt
    by_cases e : s = P0.ns L.t
    · subst e; rw [upd_same]; exact hmk
    · rw [upd_other _ _ e]
      refine h.mark s ?_
      by_cases e3 : P0.nF - L.t = 0
      · have : s ≠ P.nS := by
          intro e4
          apply e
          unfold PS.ns
          rw [if_neg (by omega), e4, h.nS]
        omega
      · omega
  · intro k j hk hj
    have hk : k < L.t + 1 := hk
    rw [b6, sn] at hj
    rw [b7, a10]
    by_cases e : k = L.t
    · subst e; rw [upn_same] at hj; omega
    · rw [upn_other _ _ (nsn k (by omega))] at hj
      exact h.out1 k j (by omega) hj
  · intro k e hk h1 h2 h3
    have hk : k < L.t + 1 := hk
    rw [a10] at h3
    rw [b6, b7, sn]
    by_cases ek : k = L.t
    · exfalso
      subst ek
      obtain ⟨m1, m2, k, k', m3, m4, m5, m6, m7, m8, m9, m10⟩ := h.move e h1
      have hb : L.blk e ≠ 0 := h1
      have hkt := rngt (L.blk e - 1) k (by omega) m3 (by rw [show L.blk e - 1 + 1 = L.blk e by omega]; exact m4)
      rw [m7] at h3
      exact nsn k hkt (by omega)
    · rw [upn_other _ _ (nsn k (by omega))]
      exact h.out2 k e (by omega) h1 h2 h3
  · intro k i j hk hij hj
    have hk : k < L.t + 1 := hk
    rw [b6, sn] at hj
    rw [b7]
    by_cases e : k = L.t
    · subst e; rw [upn_same] at hj; omega
    · rw [upn_other _ _ (nsn k (by omega))] at hj
      exact h.out3 k i j (by omega) hij hj
theorem Lay.kle (h : Lay P0 P L) {β : Nat} (hβ : β ≤ L.nb) : L.kb β ≤ L.t := by
  have : ∀ n β, β + n = L.nb → L.kb β ≤ L.t := by
    intro n
    induction n with
    | zero => intro β hβ; rw [show β = L.nb by omega, h.kbt]; exact Nat.le_refl _
    | succ n ih => intro β hβ; exact Nat.le_trans (h.kbm β (by omega)) (ih (β + 1) (by omega))
  exact this (L.nb - β) β (by omega)

theorem PS.newComp_facts (P : PS) : (P.newComp).nE = P.nE ∧ (P.newComp).nK = P.nK ∧ (P.newComp).nQ = P.nQ ∧ (P.newComp).nF = P.nF ∧ (P.newComp).nS = P.nS ∧ (P.newComp).free = P.free ∧
    (P.newComp).nU = P.nU - 1 ∧ (P.newComp).nC = P.nC + (1 - P.nU) ∧ (P.newComp).unused = P.unused ∧ (P.newComp).fr = P.fr ∧ (P.newComp).to = P.to ∧ (P.newComp).edg = upd P.edg P.compNo 0 ∧ (P.newComp).marks = P.marks ∧
    (P.newComp).node = P.node ∧ (P.newComp).comp = P.comp ∧ (P.newComp).idx = P.idx ∧ (P.newComp).mark = P.mark ∧ (P.newComp).on = P.on ∧ (P.newComp).out = P.out ∧ (P.newComp).mem = P.mem ∧ (∀ c, c ≠ P.compNo → (P.newComp).mn c = P.mn c) ∧ ((P.nU ≠ 0 → P.mn P.compNo = 0) → (P.newComp).mn P.compNo = 0) := by
  unfold PS.newComp
  by_cases e : P.nU = 0
  · rw [if_pos e]
    have : P.compNo = P.nC := by unfold PS.compNo; rw [if_pos e]
    rw [this]
    refine ⟨rfl, rfl, rfl, rfl, rfl, rfl, ?_, ?_, rfl, rfl, rfl, rfl, rfl, rfl, rfl, rfl, rfl, rfl, rfl, rfl, ?_, ?_⟩
    · show P.nU = P.nU - 1; omega
    · show P.nC + 1 = P.nC + (1 - P.nU); omega
    · intro c hc; exact upn_other _ _ hc
    · intro _; exact upn_same _ _ _
  · rw [if_neg e]
    refine ⟨rfl, rfl, rfl, rfl, rfl, rfl, rfl, ?_, rfl, rfl, rfl, rfl, rfl, rfl, rfl, rfl, rfl, rfl, rfl, rfl, fun _ _ => rfl, fun h => h e⟩
    · show P.nC = P.nC + (1 - P.nU); omega

/-- A new component. -/
theorem Lay.newc (h : Lay P0 P L) (hs : Spare P0) (hm : ∀ j, j < P0.nU → P0.mn (P0.unused j).toNat = 0) : Lay P0 P.newComp { L with nb := L.nb + 1, kb := up L.kb (L.nb + 1) L.t } := by
  obtain ⟨a1, a2, a3, a4, a5, a6, a7, a8, a9, a10, a11, a12, a13, b1, b2, b3, b4, b5, b6, b7, b8, b9⟩ := P.newComp_facts
  have cn := h.compNo
  have csn : ∀ β, β < L.nb → P0.cs β ≠ P.compNo := fun β hβ e => by rw [cn] at e; have := hs.cs_inj e; omega
  have knb : ∀ β, β ≤ L.nb → up L.kb (L.nb + 1) L.t β = L.kb β := fun β hβ => up_other _ _ (by omega)
  have kt : up L.kb (L.nb + 1) L.t (L.nb + 1) = L.t := up_same _ _ _
  have mn0 : P.newComp.mn (P0.cs L.nb) = 0 := by
    rw [← cn]
    refine b9 (fun hU => ?_)
    rw [h.nU] at hU
    rw [cn, (h.oldc (P0.cs L.nb) (fun β hβ e => by have := hs.cs_inj e; omega)).1]
    unfold PS.cs
    rw [if_pos (by omega)]
    exact hm _ (by omega)
  refine ⟨a1.trans h.nE, a2.trans h.nK, a3.trans h.nQ, a4.trans h.nF, a5.trans h.nS, a6.trans h.free, ?_, ?_, a9.trans h.unused, ?_, ?_, ?_, ?_, kt, ?_, ?_, ?_, ?_, ?_, ?_, ?_, ?_, ?_, ?_, ?_, ?_, ?_⟩
  · rw [a7, h.nU]; show _ = P0.nU - (L.nb + 1); omega
  · rw [a8, h.nC, h.nU]; show _ = P0.nC + (L.nb + 1 - P0.nU); omega
  · intro e he; rw [a10, a11]; exact h.keep e he
  · intro e he
    have m0 : L.blk e ≠ 0 := he
    obtain ⟨m1, m2, k, k', m3, m4, m5, m6, m7, m8, m9, m10⟩ := h.move e he
    refine ⟨Nat.le_succ_of_le m1, m2, k, k', ?_, ?_, ?_, ?_, by rw [a10]; exact m7, by rw [a11]; exact m8, m9, m10⟩
    · show up L.kb (L.nb + 1) L.t (L.blk e - 1) ≤ k; rw [knb _ (by omega)]; exact m3
    · show k < up L.kb (L.nb + 1) L.t (L.blk e); rw [knb _ m1]; exact m4
    · show up L.kb (L.nb + 1) L.t (L.blk e - 1) ≤ k'; rw [knb _ (by omega)]; exact m5
    · show k' < up L.kb (L.nb + 1) L.t (L.blk e); rw [knb _ m1]; exact m6
  · show up L.kb (L.nb + 1) L.t 0 = 0; rw [knb _ (by omega)]; exact h.kb0
  · intro β hβ
    have hβ : β < L.nb + 1 := hβ
    show up L.kb (L.nb + 1) L.t β ≤ up L.kb (L.nb + 1) L.t (β + 1)
    rw [knb β (by omega)]
    by_cases e : β = L.nb
    · subst e; rw [kt, h.kbt]; exact Nat.le_refl _
    · rw [knb (β + 1) (by omega)]; exact h.kbm β (by omega)
  · intro β k k' hβ h1 h2 h3 h4 he
    have hβ : β < L.nb + 1 := hβ
    have h1 : up L.kb (L.nb + 1) L.t β ≤ k := h1
    have h2 : k < up L.kb (L.nb + 1) L.t (β + 1) := h2
    have h3 : up L.kb (L.nb + 1) L.t β ≤ k' := h3
    have h4 : k' < up L.kb (L.nb + 1) L.t (β + 1) := h4
    rw [knb β (by omega)] at h1 h3
    by_cases e : β = L.nb
    · subst e; rw [kt] at h2; rw [h.kbt] at h1; omega
    · rw [knb (β + 1) (by omega)] at h2 h4; exact h.nuinj β k k' (by omega) h1 h2 h3 h4 he
  · intro k hk; rw [b1]; exact h.node k hk
  · intro β k hβ h1 h2
    have hβ : β < L.nb + 1 := hβ
    have h1 : up L.kb (L.nb + 1) L.t β ≤ k := h1
    have h2 : k < up L.kb (L.nb + 1) L.t (β + 1) := h2
    rw [knb β (by omega)] at h1
    rw [b2]
    by_cases e : β = L.nb
    · subst e; rw [kt] at h2; rw [h.kbt] at h1; omega
    · rw [knb (β + 1) (by omega)] at h2; exact h.comp β k (by omega) h1 h2
  · intro β hβ
    have hβ : β < L.nb + 1 := hβ
    show _ = up L.kb (L.nb + 1) L.t (β + 1) - up L.kb (L.nb + 1) L.t β
    rw [knb β (by omega)]
    by_cases e : β = L.nb
    · subst e; rw [kt, h.kbt, mn0]; omega
    · rw [knb (β + 1) (by omega), b8 _ (csn β (by omega))]; exact h.mn β (by omega)
  · intro β j hβ hj
    have hβ : β < L.nb + 1 := hβ
    have hj : j < up L.kb (L.nb + 1) L.t (β + 1) - up L.kb (L.nb + 1) L.t β := hj
    show _ = ((P0.ns (up L.kb (L.nb + 1) L.t β + j) : Nat) : Int)
    rw [knb β (by omega)] at hj ⊢
    by_cases e : β = L.nb
    · subst e; rw [kt, h.kbt] at hj; omega
    · rw [knb (β + 1) (by omega)] at hj; rw [b7]; exact h.mem β j (by omega) hj
  · intro β hβ
    have hβ : β < L.nb + 1 := hβ
    rw [a12]
    by_cases e : β = L.nb
    · subst e
      rw [cn, upd_same, cnt_none]; rfl
      intro e he
      have : L.blk e ≤ L.nb := by
        by_cases e0 : L.blk e = 0
        · omega
        · exact (h.move e e0).1
      simp; omega
    · rw [upd_other _ _ (csn β (by omega))]; exact h.edg β (by omega)
  · intro k hk; rw [b3]; exact h.idx k hk
  · intro s hne; rw [b1, b2, b3, b5, b6]; exact h.olds s hne
  · intro c hne
    have hne : ∀ β, β < L.nb + 1 → c ≠ P0.cs β := hne
    have e : c ≠ P.compNo := by rw [cn]; exact hne L.nb (by omega)
    rw [b8 c e, b7, a12, upd_other _ _ e]
    exact h.oldc c (fun β hβ => hne β (by omega))
  · intro s hlt; rw [b4, a13]; rw [a5] at hlt; exact h.mark s hlt
  · intro k j hk hj; rw [b5] at hj; rw [b6, a10]; exact h.out1 k j hk hj
  · intro k e hk h1 h2 h3; rw [a10] at h3; rw [b5, b6]; exact h.out2 k e hk h1 h2 h3
  · intro k i j hk hij hj; rw [b5] at hj; rw [b6]; exact h.out3 k i j hk hij hj

/-- Edge e is moved to the component that was made last. -/
theorem Lay.assign (h : Lay P0 P L) (hs : Spare P0) (hnb : 0 < L.nb) (e k k' : Nat) (he : e < P0.nE) (hb : L.blk e = 0) (hd : ¬ L.dn e) (h1 : L.kb (L.nb - 1) ≤ k) (h2 : k < L.t) (h1' : L.kb (L.nb - 1) ≤ k') (h2' : k' < L.t)
    (hf : P0.fr e = L.nu k) (ht : P0.to e = L.nu k') :
    Lay P0 { P with fr := upd P.fr e (P0.ns k : Nat), to := upd P.to e (P0.ns k' : Nat), edg := upd P.edg (P0.cs (L.nb - 1)) (P.edg (P0.cs (L.nb - 1)) + 1) } { L with blk := up L.blk e L.nb } := by
  have bo : ∀ x, x ≠ e → up L.blk e L.nb x = L.blk x := fun x hx => up_other _ _ hx
  have bs : up L.blk e L.nb e = L.nb := up_same _ _ _
  refine ⟨h.nE, h.nK, h.nQ, h.nF, h.nS, h.free, h.nU, h.nC, h.unused, ?_, ?_, h.kb0, h.kbm, h.kbt, h.nuinj, h.node, h.comp, h.mn, h.mem, ?_, h.idx, h.olds, ?_, h.mark, ?_, ?_, h.out3⟩
  · intro x hx
    have hx : up L.blk e L.nb x = 0 := hx
    by_cases ex : x = e
    · subst ex; rw [bs] at hx; omega
    · rw [bo x ex] at hx
      show upd P.fr e _ x = _ ∧ upd P.to e _ x = _
      rw [upd_other _ _ ex, upd_other _ _ ex]; exact h.keep x hx
  · intro x hx
    have hx : up L.blk e L.nb x ≠ 0 := hx
    show up L.blk e L.nb x ≤ L.nb ∧ _ ∧ ∃ k k', L.kb (up L.blk e L.nb x - 1) ≤ k ∧ k < L.kb (up L.blk e L.nb x) ∧ L.kb (up L.blk e L.nb x - 1) ≤ k' ∧ k' < L.kb (up L.blk e L.nb x) ∧ upd P.fr e _ x = _ ∧ upd P.to e _ x = _ ∧ _ ∧ _
    by_cases ex : x = e
    · subst ex
      rw [bs, upd_same, upd_same, h.kbt]
      exact ⟨Nat.le_refl _, he, k, k', h1, h2, h1', h2', rfl, rfl, hf, ht⟩
    · rw [bo x ex] at hx ⊢
      rw [upd_other _ _ ex, upd_other _ _ ex]
      exact h.move x hx
  · intro β hβ
    have hβ : β < L.nb := hβ
    show upd P.edg (P0.cs (L.nb - 1)) _ (P0.cs β) = ((cnt (fun x => up L.blk e L.nb x == β + 1) P0.nE : Nat) : Int)
    by_cases eb : β = L.nb - 1
    · subst eb
      rw [upd_same, h.edg _ hβ, cnt_add (p := fun x => L.blk x == L.nb - 1 + 1) (q := fun x => up L.blk e L.nb x == L.nb - 1 + 1) (x := e) P0.nE he]
      · simp
      · intro x hx; simp only [bo x hx]
      · simp only [hb]; simp
      · simp only [bs]; simp; omega
    · rw [upd_other _ _ (fun h' => eb (hs.cs_inj h')), h.edg β hβ]
      congr 1
      refine cnt_congr _ (fun x _ => ?_)
      by_cases ex : x = e
      · subst ex; simp only [bs, hb]; simp; omega
      · simp only [bo x ex]
  · intro c hne
    have := h.oldc c hne
    have e2 := hne (L.nb - 1) (by show L.nb - 1 < L.nb; omega)
    refine ⟨this.1, this.2.1, ?_⟩
    show upd P.edg _ _ c = _
    rw [upd_other _ _ e2]; exact this.2.2
  · intro k j hk hj
    obtain ⟨x, x1, x2, x3, x4⟩ := h.out1 k j hk hj
    have : x ≠ e := fun e1 => hd (by rw [← e1]; exact x3)
    refine ⟨x, x1, ?_, x3, ?_⟩
    · show up L.blk e L.nb x ≠ 0; rw [bo x this]; exact x2
    · show upd P.fr e _ x = _; rw [upd_other _ _ this]; exact x4
  · intro k x hk hx hdx hfx
    have : x ≠ e := fun e1 => hd (by rw [← e1]; exact hdx)
    have hx : up L.blk e L.nb x ≠ 0 := hx
    have hfx : upd P.fr e _ x = _ := hfx
    rw [bo x this] at hx
    rw [upd_other _ _ this] at hfx
    exact h.out2 k x hk hx hdx hfx

/-- Edge e is listed at its new slot. -/
theorem Lay.list (h : Lay P0 P L) (hs : Spare P0) (e k : Nat) (hb : L.blk e ≠ 0) (hk : k < L.t) (hf : P.fr e = P0.ns k) (hlast : ∀ x, L.dn x → L.blk x ≠ 0 → P.fr x = P0.ns k → x < e) :
    Lay P0 (P.pushOut (P0.ns k) e) { L with dn := fun x => x = e ∨ L.dn x } := by
  have on' : ∀ k', k' ≠ k → (P.pushOut (P0.ns k) e).on (P0.ns k') = P.on (P0.ns k') ∧ (P.pushOut (P0.ns k) e).out (P0.ns k') = P.out (P0.ns k') := by
    intro k' hk'
    have : P0.ns k' ≠ P0.ns k := fun h' => hk' (hs.ns_inj h')
    refine ⟨upn_other _ _ this, ?_⟩
    show (if P0.ns k' = P0.ns k then _ else _) = _
    rw [if_neg this]
  have ons : (P.pushOut (P0.ns k) e).on (P0.ns k) = P.on (P0.ns k) + 1 := upn_same _ _ _
  have outs : (P.pushOut (P0.ns k) e).out (P0.ns k) = upd (P.out (P0.ns k)) (P.on (P0.ns k)) e := by
    show (if P0.ns k = P0.ns k then _ else _) = _
    rw [if_pos rfl]
  refine ⟨h.nE, h.nK, h.nQ, h.nF, h.nS, h.free, h.nU, h.nC, h.unused, h.keep, h.move, h.kb0, h.kbm, h.kbt, h.nuinj, h.node, h.comp, h.mn, h.mem, h.edg, h.idx, ?_, h.oldc, h.mark, ?_, ?_, ?_⟩
  · intro s hne
    have := h.olds s hne
    have es := hne k hk
    refine ⟨this.1, this.2.1, this.2.2.1, ?_, ?_⟩
    · show upn _ _ _ s = _; rw [upn_other _ _ es]; exact this.2.2.2.1
    · show (if s = P0.ns k then _ else _) = _; rw [if_neg es]; exact this.2.2.2.2
  · intro k' j hk' hj
    by_cases ek : k' = k
    · subst ek
      rw [ons] at hj
      rw [outs]
      by_cases ej : j = P.on (P0.ns k')
      · subst ej; rw [upd_same]; exact ⟨e, rfl, hb, .inl rfl, hf⟩
      · rw [upd_other _ _ ej]
        obtain ⟨x, x1, x2, x3, x4⟩ := h.out1 k' j hk' (by omega)
        exact ⟨x, x1, x2, .inr x3, x4⟩
    · rw [(on' k' ek).1] at hj
      rw [(on' k' ek).2]
      obtain ⟨x, x1, x2, x3, x4⟩ := h.out1 k' j hk' hj
      exact ⟨x, x1, x2, .inr x3, x4⟩
  · intro k' x hk' hx hdx hfx
    have hdx : x = e ∨ L.dn x := hdx
    have hfx : P.fr x = P0.ns k' := hfx
    by_cases ek : k' = k
    · subst ek
      rw [ons, outs]
      rcases hdx with rfl | hdx
      · exact ⟨P.on (P0.ns k'), by omega, upd_same _ _ _⟩
      · obtain ⟨j, j1, j2⟩ := h.out2 k' x hk' hx hdx hfx
        exact ⟨j, by omega, by rw [upd_other _ _ (by omega)]; exact j2⟩
    · rw [(on' k' ek).1, (on' k' ek).2]
      rcases hdx with rfl | hdx
      · exfalso
        have hfx2 : P.fr x = P0.ns k' := hfx
        rw [hf] at hfx2
        exact ek (hs.ns_inj (by omega)).symm
      · exact h.out2 k' x hk' hx hdx hfx
  · intro k' i j hk' hij hj
    by_cases ek : k' = k
    · subst ek
      rw [ons] at hj
      rw [outs]
      by_cases ej : j = P.on (P0.ns k')
      · subst ej
        rw [upd_same, upd_other _ _ (by omega)]
        obtain ⟨x, x1, x2, x3, x4⟩ := h.out1 k' i hk' hij
        rw [x1]
        have := hlast x x3 x2 x4
        omega
      · rw [upd_other _ _ ej, upd_other _ _ (by omega)]
        exact h.out3 k' i j hk' hij (by omega)
    · rw [(on' k' ek).1] at hj
      rw [(on' k' ek).2]
      exact h.out3 k' i j hk' hij hj
end
end Go.Proofs.Qxb6602148a
