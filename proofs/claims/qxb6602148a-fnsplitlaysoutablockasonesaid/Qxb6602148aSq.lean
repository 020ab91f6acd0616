/-
  PLAIN: 'split's search and what it lays out, together.
-/
import Derived.Test.Qxb6602148aLay
import Derived.Test.Qxb6602148aHTc
namespace Go.Proofs.Qxb6602148a
set_option linter.unusedVariables false
set_option linter.unusedSimpArgs false

/-- The state, what has been laid out, and the two tables of 'slotOf'. -/
structure SS where
  P : PS
  L : LS
  laid : Nat → Int
  slin : Nat → Int

def SS.slot (S : SS) (u i c : Nat) (bl : Int) : SS :=
  if S.laid i = bl then S else
  { P := S.P.newSlot (S.P.node u) c, L := { S.L with t := S.L.t + 1, kb := up S.L.kb S.L.nb (S.L.t + 1), nu := up S.L.nu S.L.t u }, laid := upd S.laid i bl, slin := upd S.slin i (S.P.slotNo : Nat) }
def SS.slotVal (S : SS) (i : Nat) (bl : Int) : Int := if S.laid i = bl then S.slin i else ((S.P.slotNo : Nat) : Int)

/-- The last component, while its slots are laid. -/
structure LK (P0 : PS) (N : Nat) (str : Nat → Nat) (S : SS) (bl : Int) : Prop where
  lay : Lay P0 S.P S.L
  nb : 0 < S.L.nb
  li1 : ∀ i, i < N → S.laid i = bl → ∃ k, S.L.kb (S.L.nb - 1) ≤ k ∧ k < S.L.t ∧ S.L.nu k = str i ∧ S.slin i = ((P0.ns k : Nat) : Int)
  li2 : ∀ i, i < N → S.laid i ≠ bl → ∀ k, S.L.kb (S.L.nb - 1) ≤ k → k < S.L.t → S.L.nu k ≠ str i
  li3 : ∀ i, i < N → 0 ≤ S.laid i ∧ S.laid i ≤ bl
  loc : ∀ i, i < N → S.P.loc (str i) = ((i : Nat) : Int)
  mks : 0 ≤ S.P.marks

/-- What 'slotOf' leaves alone. -/
structure Still (S S' : SS) : Prop where
  nb : S'.L.nb = S.L.nb
  blk : S'.L.blk = S.L.blk
  dn : S'.L.dn = S.L.dn
  fr : S'.P.fr = S.P.fr
  to : S'.P.to = S.P.to
  nE : S'.P.nE = S.P.nE
  edg : S'.P.edg = S.P.edg
  nC : S'.P.nC = S.P.nC
  marks : S'.P.marks = S.P.marks
  t1 : S.L.t ≤ S'.L.t
  t2 : S'.L.t ≤ S.L.t + 1
  kb : ∀ β, β < S.L.nb → S'.L.kb β = S.L.kb β
  nu : ∀ k, k < S.L.t → S'.L.nu k = S.L.nu k

section
variable {P0 : PS} {N : Nat} {str : Nat → Nat} {S : SS} {bl : Int}

theorem LK.slot (h : LK P0 N str S bl) (hs : Spare P0) (hold : ∀ i, i < N → ∀ k, str i ≠ P0.ns k) (hinj : ∀ i j, i < N → j < N → str i = str j → i = j) {i : Nat} (hi : i < N) :
    LK P0 N str (S.slot (str i) i (P0.cs (S.L.nb - 1)) bl) bl ∧ Still S (S.slot (str i) i (P0.cs (S.L.nb - 1)) bl) ∧
    ∃ k, (S.slot (str i) i (P0.cs (S.L.nb - 1)) bl).L.kb (S.L.nb - 1) ≤ k ∧ k < (S.slot (str i) i (P0.cs (S.L.nb - 1)) bl).L.t ∧ (S.slot (str i) i (P0.cs (S.L.nb - 1)) bl).L.nu k = str i ∧ S.slotVal i bl = ((P0.ns k : Nat) : Int) ∧ (S.L.t ≤ k → k + 1 = (S.slot (str i) i (P0.cs (S.L.nb - 1)) bl).L.t) := by
  unfold SS.slot SS.slotVal
  by_cases e : S.laid i = bl
  · simp only [if_pos e]
    obtain ⟨k, k1, k2, k3, k4⟩ := h.li1 i hi e
    exact ⟨h, ⟨rfl, rfl, rfl, rfl, rfl, rfl, rfl, rfl, rfl, Nat.le_refl _, Nat.le_succ _, fun _ _ => rfl, fun _ _ => rfl⟩, k, k1, k2, k3, k4, fun h' => by omega⟩
  · simp only [if_neg e]
    have hl := h.lay.slot hs h.nb (str i) (hold i hi) (h.li2 i hi e) h.mks
    obtain ⟨a1, a2, a3, a4, a5, a6, a7, a8, a9, a10, a11, a12, a13⟩ := S.P.newSlot_facts (S.P.node (str i)) (P0.cs (S.L.nb - 1))
    obtain ⟨b1, b2, b3, b4, b5, b6, b7, b8, b9⟩ := S.P.newSlot_slot (S.P.node (str i)) (P0.cs (S.L.nb - 1))
    have sn := h.lay.slotNo
    have kb1 : up S.L.kb S.L.nb (S.L.t + 1) (S.L.nb - 1) = S.L.kb (S.L.nb - 1) := up_other _ _ (by have := h.nb; omega)
    have kle := h.lay.kle (show S.L.nb - 1 ≤ S.L.nb by omega)
    have nus : up S.L.nu S.L.t (str i) S.L.t = str i := up_same _ _ _
    have nuo : ∀ k, k < S.L.t → up S.L.nu S.L.t (str i) k = S.L.nu k := fun k hk => up_other _ _ (by omega)
    refine ⟨⟨hl, h.nb, ?_, ?_, ?_, ?_, ?_⟩, ⟨rfl, rfl, rfl, a10, a11, a1, a12, a8, a13, Nat.le_succ _, Nat.le_refl _, fun β hβ => up_other _ _ (by omega), nuo⟩, S.L.t, ?_, Nat.lt_succ_self _, nus, ?_, fun _ => rfl⟩
    · intro j hj hla
      show ∃ k, up S.L.kb S.L.nb (S.L.t + 1) (S.L.nb - 1) ≤ k ∧ k < S.L.t + 1 ∧ up S.L.nu S.L.t (str i) k = str j ∧ upd S.slin i _ j = _
      rw [kb1]
      by_cases ej : j = i
      · subst ej
        exact ⟨S.L.t, kle, by omega, nus, by rw [upd_same, sn]⟩
      · have hla : upd S.laid i bl j = bl := hla
        rw [upd_other _ _ ej] at hla
        obtain ⟨k, k1, k2, k3, k4⟩ := h.li1 j hj hla
        exact ⟨k, k1, by omega, by rw [nuo k k2]; exact k3, by rw [upd_other _ _ ej]; exact k4⟩
    · intro j hj hla k k1 k2
      have k1 : up S.L.kb S.L.nb (S.L.t + 1) (S.L.nb - 1) ≤ k := k1
      have k2 : k < S.L.t + 1 := k2
      have hla : upd S.laid i bl j ≠ bl := hla
      show up S.L.nu S.L.t (str i) k ≠ str j
      rw [kb1] at k1
      have ej : j ≠ i := fun e1 => hla (by rw [e1, upd_same])
      rw [upd_other _ _ ej] at hla
      by_cases ek : k = S.L.t
      · rw [ek, nus]; exact fun e1 => ej (hinj j i hj hi e1.symm)
      · rw [nuo k (by omega)]; exact h.li2 j hj hla k k1 (by omega)
    · intro j hj
      show 0 ≤ upd S.laid i bl j ∧ upd S.laid i bl j ≤ bl
      by_cases ej : j = i
      · subst ej
        rw [upd_same]
        have := h.li3 j hj
        omega
      · rw [upd_other _ _ ej]; exact h.li3 j hj
    · intro j hj
      show (S.P.newSlot (S.P.node (str i)) (P0.cs (S.L.nb - 1))).loc (str j) = _
      rw [b5, sn, upd_other _ _ (hold j hj _)]
      exact h.loc j hj
    · show 0 ≤ (S.P.newSlot (S.P.node (str i)) (P0.cs (S.L.nb - 1))).marks
      rw [a13]; exact h.mks
    · show up S.L.kb S.L.nb (S.L.t + 1) (S.L.nb - 1) ≤ S.L.t
      rw [kb1]; exact kle
    · rw [sn]
end

/-- What is known of the edges that take part: each leads from one of the slots to another. -/
structure Orient (P0 : PS) (U : UG) (N : Nat) (str : Nat → Nat) : Prop where
  hN : U.N = N
  ends : ∀ a e b, U.inc a e b → ∃ i l, i < N ∧ l < N ∧ P0.fr e = ((str i : Nat) : Int) ∧ P0.to e = ((str l : Nat) : Int) ∧ U.inc i e l ∧ e < P0.nE
  old : ∀ i, i < N → ∀ k, str i ≠ P0.ns k
  inj : ∀ i j, i < N → j < N → str i = str j → i = j

def nz (L : LS) (e : Nat) : Bool := L.blk e != 0

/-- Between blocks. LA: what had been laid out before. -/
structure SQ (P0 : PS) (LA : LS) (U : UG) (N : Nat) (str : Nat → Nat) (s : HS) (S : SS) : Prop where
  inv : HInv U s
  lay : Lay P0 S.P S.L
  nb : S.L.nb = LA.nb + s.nb
  blk : ∀ e, (∃ a b, U.inc a e b) → S.L.blk e = if s.blk e = 0 then 0 else LA.nb + s.blk e
  blko : ∀ e, (¬ ∃ a b, U.inc a e b) → S.L.blk e = LA.blk e
  dn : S.L.dn = LA.dn
  kbo : ∀ β, β ≤ LA.nb → S.L.kb β = LA.kb β
  tle : LA.t ≤ S.L.t
  nuo : ∀ k, k < LA.t → S.L.nu k = LA.nu k
  laid : ∀ i, i < N → 0 ≤ S.laid i ∧ S.laid i ≤ (s.nb : Int)
  tou : ∀ k, LA.t ≤ k → k < S.L.t → ∃ e, S.L.blk e ≠ 0 ∧ (S.P.fr e = ((P0.ns k : Nat) : Int) ∨ S.P.to e = ((P0.ns k : Nat) : Int))
  full : ∀ β, LA.nb < β → β ≤ S.L.nb → ∃ e, S.L.blk e = β
  loc : ∀ i, i < N → S.P.loc (str i) = ((i : Nat) : Int)
  mks : 0 ≤ S.P.marks
  tb : S.L.t ≤ 2 * cnt (nz S.L) P0.nE
  nbb : S.L.nb ≤ cnt (nz S.L) P0.nE
  mkb : S.P.marks ≤ P0.marks + (LA.nb : Int) + 1

/-- While a block is laid out: the edges met from place kk on have been moved. -/
structure PQ (P0 : PS) (LA : LS) (U : UG) (N : Nat) (str : Nat → Nat) (s : HS) (S : SS) (kk : Nat) : Prop where
  lk : LK P0 N str S ((s.nb : Int) + 1)
  nb : S.L.nb = LA.nb + s.nb + 1
  blk1 : ∀ i, kk ≤ i → i < s.k → S.L.blk (s.met i) = LA.nb + s.nb + 1
  blk2 : ∀ e, (∃ a b, U.inc a e b) → (∀ i, kk ≤ i → i < s.k → s.met i ≠ e) → S.L.blk e = if s.blk e = 0 then 0 else LA.nb + s.blk e
  blko : ∀ e, (¬ ∃ a b, U.inc a e b) → S.L.blk e = LA.blk e
  dn : S.L.dn = LA.dn
  kbo : ∀ β, β ≤ LA.nb → S.L.kb β = LA.kb β
  tle : LA.t ≤ S.L.t
  nuo : ∀ k, k < LA.t → S.L.nu k = LA.nu k
  kk1 : s.pos (s.m - 1) ≤ kk
  kk2 : kk ≤ s.k
  tou : ∀ k, LA.t ≤ k → k < S.L.t → ∃ e, S.L.blk e ≠ 0 ∧ (S.P.fr e = ((P0.ns k : Nat) : Int) ∨ S.P.to e = ((P0.ns k : Nat) : Int))
  full : ∀ β, LA.nb < β → β ≤ LA.nb + s.nb → ∃ e, S.L.blk e = β
  tb : S.L.t ≤ 2 * cnt (nz S.L) P0.nE
  nbb : LA.nb + s.nb + (s.k - kk) ≤ cnt (nz S.L) P0.nE
  mkb : S.P.marks ≤ P0.marks + (LA.nb : Int) + 1

section
variable {P0 : PS} {LA : LS} {U : UG} {N : Nat} {str : Nat → Nat} {s : HS} {S : SS} {kk : Nat}

theorem SQ.start (h : SQ P0 LA U N str s S) (hs : Spare P0) (hm0 : ∀ j, j < P0.nU → P0.mn (P0.unused j).toNat = 0) (hm : 2 ≤ s.m) :
    PQ P0 LA U N str s { S with P := S.P.newComp, L := { S.L with nb := S.L.nb + 1, kb := up S.L.kb (S.L.nb + 1) S.L.t } } s.k := by
  have hl := h.lay.newc hs hm0
  obtain ⟨a1, a2, a3, a4, a5, a6, a7, a8, a9, a10, a11, a12, a13, b1, b2, b3, b4, b5, b6, b7, b8, b9⟩ := S.P.newComp_facts
  have hloc : S.P.newComp.loc = S.P.loc := by unfold PS.newComp; split <;> rfl
  have kb1 : up S.L.kb (S.L.nb + 1) S.L.t (S.L.nb + 1 - 1) = S.L.t := by
    rw [show S.L.nb + 1 - 1 = S.L.nb by omega, up_other _ _ (by omega)]; exact h.lay.kbt
  refine ⟨⟨hl, Nat.succ_pos _, ?_, ?_, ?_, ?_, ?_⟩, ?_, ?_, ?_, h.blko, h.dn, ?_, h.tle, h.nuo, ?_, Nat.le_refl _, ?_, ?_, h.tb, ?_, ?_⟩
  · intro i hi hla
    have hla : S.laid i = (s.nb : Int) + 1 := hla
    have := h.laid i hi
    omega
  · intro i hi hla k k1 k2
    have k1 : up S.L.kb (S.L.nb + 1) S.L.t (S.L.nb + 1 - 1) ≤ k := k1
    have k2 : k < S.L.t := k2
    rw [kb1] at k1; omega
  · intro i hi
    have := h.laid i hi
    show 0 ≤ S.laid i ∧ S.laid i ≤ (s.nb : Int) + 1
    omega
  · intro i hi; show S.P.newComp.loc (str i) = _; rw [hloc]; exact h.loc i hi
  · show 0 ≤ S.P.newComp.marks; rw [a13]; exact h.mks
  · show S.L.nb + 1 = _; rw [h.nb]
  · intro i i1 i2; omega
  · intro e he _; exact h.blk e he
  · intro β hβ
    show up S.L.kb (S.L.nb + 1) S.L.t β = _
    rw [up_other _ _ (by have := h.nb; omega)]; exact h.kbo β hβ
  · exact h.inv.M.posle (s.m - 1) (by omega)
  · intro k k1 k2
    show ∃ e, S.L.blk e ≠ 0 ∧ (S.P.newComp.fr e = _ ∨ S.P.newComp.to e = _)
    rw [a10, a11]; exact h.tou k k1 k2
  · intro β b1 b2; exact h.full β b1 (by rw [h.nb]; exact b2)
  · rw [← h.nb, Nat.sub_self]; exact h.nbb
  · show S.P.newComp.marks ≤ _; rw [a13]; exact h.mkb

/-- One edge is moved: a slot for each end, then the edge itself. -/
def SS.assign (S : SS) (c e : Nat) (vf vt : Int) : SS :=
  { S with P := { S.P with fr := upd S.P.fr e vf, to := upd S.P.to e vt, edg := upd S.P.edg c (S.P.edg c + 1) }, L := { S.L with blk := up S.L.blk e S.L.nb } }
def SS.pop (S : SS) (P0 : PS) (str : Nat → Nat) (bl : Int) (i l e : Nat) : SS :=
  ((S.slot (str i) i (P0.cs (S.L.nb - 1)) bl).slot (str l) l (P0.cs (S.L.nb - 1)) bl).assign (P0.cs (S.L.nb - 1)) e (S.slotVal i bl) ((S.slot (str i) i (P0.cs (S.L.nb - 1)) bl).slotVal l bl)

theorem nz_set {L : LS} {e b : Nat} {nE : Nat} (he : e < nE) (h0 : L.blk e = 0) (hb : b ≠ 0) {L' : LS} (hL : L'.blk = up L.blk e b) : cnt (nz L') nE = cnt (nz L) nE + 1 := by
  refine cnt_add (x := e) nE he (fun x hx => ?_) ?_ ?_
  · unfold nz; rw [hL, up_other _ _ hx]
  · unfold nz; rw [h0]; rfl
  · unfold nz; rw [hL, up_same]; simpa using hb

theorem PQ.pop (h : PQ P0 LA U N str s S kk) (hinv : HInv U s) (hs : Spare P0) (ho : Orient P0 U N str) (hdn : ∀ e, (∃ a b, U.inc a e b) → ¬ LA.dn e) (hkk : s.pos (s.m - 1) < kk) {i l e : Nat} (he : s.met (kk - 1) = e) (hi : i < N) (hl : l < N) (hf : P0.fr e = ((str i : Nat) : Int)) (ht : P0.to e = ((str l : Nat) : Int)) :
    PQ P0 LA U N str s (S.pop P0 str ((s.nb : Int) + 1) i l e) (kk - 1) := by
  have hk2 := h.kk2
  obtain ⟨a, b, hinc⟩ := hinv.M.metex (kk - 1) (by omega)
  rw [he] at hinc
  obtain ⟨i', l', _, _, _, _, _, heE⟩ := ho.ends a e b hinc
  have hb0 : S.L.blk e = 0 := by
    rw [h.blk2 e ⟨a, b, hinc⟩ (fun j j1 j2 hj => by
      have := hinv.M.metinj j (kk - 1) j2 (by omega) (by rw [hj, he])
      omega)]
    have := hinv.M.metblk (kk - 1) (by omega)
    rw [he] at this
    rw [if_pos this]
  obtain ⟨k1, q1, x, x1, x2, x3, x4, x5⟩ := h.lk.slot hs ho.old ho.inj hi
  unfold SS.pop
  generalize hS1 : S.slot (str i) i (P0.cs (S.L.nb - 1)) ((s.nb : Int) + 1) = S1 at *
  have nb1 := q1.nb
  obtain ⟨k2, q2, y, y1, y2, y3, y4, y5⟩ := k1.slot hs ho.old ho.inj hl
  rw [nb1] at k2 q2 y1 y2 y3 y5
  generalize hS2 : S1.slot (str l) l (P0.cs (S.L.nb - 1)) ((s.nb : Int) + 1) = S2 at *
  have nb2 := q2.nb
  have nb0 := h.lk.nb
  have kbx : S2.L.kb (S.L.nb - 1) = S1.L.kb (S.L.nb - 1) := q2.kb _ (by omega)
  have hb2 : S2.L.blk e = 0 := by rw [q2.blk, q1.blk]; exact hb0
  have hd2 : ¬ S2.L.dn e := by rw [q2.dn, q1.dn, h.dn]; exact hdn e ⟨a, b, hinc⟩
  have t12 := q2.t1
  have nbS2 : S2.L.nb = S.L.nb := nb2.trans nb1
  have xnu : S2.L.nu x = str i := by rw [q2.nu x x2]; exact x3
  have la := k2.lay.assign hs (by omega) e x y heE hb2 hd2 (by rw [nbS2, kbx]; exact x1) (by omega) (by rw [nbS2]; exact y1) y2 (by rw [xnu]; exact hf) (by rw [y3]; exact ht)
  have kbS2 : ∀ β, β < S.L.nb → S2.L.kb β = S.L.kb β := fun β hβ => (q2.kb β (by omega)).trans (q1.kb β hβ)
  have bo : ∀ z, z ≠ e → up S2.L.blk e S2.L.nb z = S.L.blk z := fun z hz => by rw [up_other _ _ hz, q2.blk, q1.blk]
  have bs : up S2.L.blk e S2.L.nb e = S.L.nb := by rw [up_same, nbS2]
  have frS : S2.P.fr = S.P.fr := q2.fr.trans q1.fr
  have toS : S2.P.to = S.P.to := q2.to.trans q1.to
  have edS : S2.P.edg = S.P.edg := q2.edg.trans q1.edg
  refine ⟨⟨?_, by show 0 < S2.L.nb; omega, k2.li1, k2.li2, k2.li3, k2.loc, k2.mks⟩, ?_, ?_, ?_, ?_, ?_, ?_, ?_, ?_, by omega, by omega, ?_, ?_, ?_, ?_, ?_⟩
  · show Lay P0 { S2.P with fr := upd S2.P.fr e _, to := upd S2.P.to e _, edg := upd S2.P.edg _ _ } _
    rw [x4, y4]
    have e2 : S2.L.nb - 1 = S.L.nb - 1 := by rw [nbS2]
    rw [← e2]
    exact la
  · show S2.L.nb = _; rw [nbS2]; exact h.nb
  · intro j j1 j2
    show up S2.L.blk e S2.L.nb (s.met j) = _
    by_cases ej : j = kk - 1
    · rw [ej, he, bs]; exact h.nb
    · have : s.met j ≠ e := fun h' => ej (hinv.M.metinj j (kk - 1) j2 (by omega) (by rw [h', he]))
      rw [bo _ this]; exact h.blk1 j (by omega) j2
  · intro z hz hne
    show up S2.L.blk e S2.L.nb z = _
    have : z ≠ e := fun h' => hne (kk - 1) (Nat.le_refl _) (by omega) (by rw [he, h'])
    rw [bo z this]
    exact h.blk2 z hz (fun j j1 j2 => hne j (by omega) j2)
  · intro z hz
    show up S2.L.blk e S2.L.nb z = _
    have : z ≠ e := fun h' => hz ⟨a, b, by rw [h']; exact hinc⟩
    rw [bo z this]; exact h.blko z hz
  · show S2.L.dn = _; rw [q2.dn, q1.dn]; exact h.dn
  · intro β hβ; show S2.L.kb β = _; rw [kbS2 β (by have := h.nb; omega)]; exact h.kbo β hβ
  · show LA.t ≤ S2.L.t; have := h.tle; have := q1.t1; omega
  · intro k hk
    show S2.L.nu k = _
    have := h.tle
    have := q1.t1
    rw [q2.nu k (by omega), q1.nu k (by omega)]; exact h.nuo k hk
  · intro k a1 a2
    have a2 : k < S2.L.t := a2
    show ∃ z, up S2.L.blk e S2.L.nb z ≠ 0 ∧ (upd S2.P.fr e _ z = _ ∨ upd S2.P.to e _ z = _)
    rcases Nat.lt_or_ge k S.L.t with hlt | hge
    · obtain ⟨z, z1, z2⟩ := h.tou k a1 hlt
      have ze : z ≠ e := fun h' => z1 (by rw [h']; exact hb0)
      refine ⟨z, by rw [bo z ze]; exact z1, ?_⟩
      rw [upd_other _ _ ze, upd_other _ _ ze, frS, toS]; exact z2
    · refine ⟨e, by rw [bs]; omega, ?_⟩
      rw [upd_same, upd_same, x4, y4]
      rcases Nat.lt_or_ge k S1.L.t with hlt | hge'
      · left
        have t2 := q1.t2
        have : x = k := by
          rcases Nat.lt_or_ge x S.L.t with hx | hx
          · -- the slot was there already: then S1 has no new one
            exfalso
            have hne : S1.L.t = S.L.t := by
              rw [← hS1]
              unfold SS.slot
              by_cases e0 : S.laid i = (s.nb : Int) + 1
              · rw [if_pos e0]
              · exfalso
                rw [← hS1] at x3
                unfold SS.slot at x3
                rw [if_neg e0] at x3
                have x3 : up S.L.nu S.L.t (str i) x = str i := x3
                rw [up_other _ _ (by omega)] at x3
                have x1' : S.L.kb (S.L.nb - 1) ≤ x := by rw [← q1.kb _ (by omega)]; exact x1
                exact h.lk.li2 i hi e0 x x1' hx x3
            omega
          · have := x5 hx; omega
        rw [this]
      · right
        have t2 := q2.t2
        have : y = k := by
          rcases Nat.lt_or_ge y S1.L.t with hy | hy
          · exfalso
            have hne : S2.L.t = S1.L.t := by
              rw [← hS2]
              unfold SS.slot
              by_cases e0 : S1.laid l = (s.nb : Int) + 1
              · rw [if_pos e0]
              · exfalso
                rw [← hS2] at y3
                unfold SS.slot at y3
                rw [if_neg e0] at y3
                have y3 : up S1.L.nu S1.L.t (str l) y = str l := y3
                rw [up_other _ _ (by omega)] at y3
                have y1' : S1.L.kb (S1.L.nb - 1) ≤ y := by rw [nb1, ← kbx]; exact y1
                exact k1.li2 l hl e0 y y1' hy y3
            omega
          · have := y5 hy; omega
        rw [this]
  · intro β b1 b2
    obtain ⟨z, z1⟩ := h.full β b1 b2
    have ze : z ≠ e := fun h' => by rw [h', hb0] at z1; omega
    exact ⟨z, by show up S2.L.blk e S2.L.nb z = β; rw [bo z ze]; exact z1⟩
  · have := nz_set (L := S.L) (L' := { S2.L with blk := up S2.L.blk e S2.L.nb }) (e := e) (b := S2.L.nb) heE hb0 (by omega) (by show up S2.L.blk e S2.L.nb = _; rw [q2.blk, q1.blk])
    show S2.L.t ≤ 2 * cnt (nz { S2.L with blk := up S2.L.blk e S2.L.nb }) P0.nE
    rw [this]
    have := h.tb
    have := q1.t2
    have := q2.t2
    omega
  · have := nz_set (L := S.L) (L' := { S2.L with blk := up S2.L.blk e S2.L.nb }) (e := e) (b := S2.L.nb) heE hb0 (by omega) (by show up S2.L.blk e S2.L.nb = _; rw [q2.blk, q1.blk])
    show _ ≤ cnt (nz { S2.L with blk := up S2.L.blk e S2.L.nb }) P0.nE
    rw [this]
    have := h.nbb
    omega
  · show S2.P.marks ≤ _; rw [q2.marks, q1.marks]; exact h.mkb

theorem SQ.next (h : SQ P0 LA U N str s S) {s' : HS} (hi : HInv U s') (e1 : s'.nb = s.nb) (e2 : s'.blk = s.blk) : SQ P0 LA U N str s' S :=
  ⟨hi, h.lay, by rw [e1]; exact h.nb, by rw [e2]; exact h.blk, h.blko, h.dn, h.kbo, h.tle, h.nuo, by rw [e1]; exact h.laid, h.tou, h.full, h.loc, h.mks, h.tb, h.nbb, h.mkb⟩

theorem PQ.finish (h : PQ P0 LA U N str s S kk) (ok : U.Ok) (hinv : HInv U s) (hLA : ∀ e, LA.blk e ≤ LA.nb) (hm : 2 ≤ s.m) (hq : s.sc s.top = U.st (s.top + 1)) (hlow : s.idx s.par ≤ s.low s.top) (hkk : kk = s.pos (s.m - 1)) :
    ∃ bk, SQ P0 LA U N str (s.cut bk) S := by
  have pst := hinv.M.poste (s.m - 1) (by omega) (by omega)
  have hsm : ∀ x, (∀ i, s.pos (s.m - 1) ≤ i → i < s.k → s.met i ≠ x) → S.L.blk x ≠ LA.nb + s.nb + 1 := by
    intro x hx
    by_cases hin : ∃ a b, U.inc a x b
    · rw [h.blk2 x hin (fun i i1 i2 => hx i (by omega) i2)]
      have := hinv.B.blkle x
      split <;> omega
    · rw [h.blko x hin]
      have := hLA x
      omega
  have hinr : ∀ x, S.L.blk x = LA.nb + s.nb + 1 → ∃ i, s.pos (s.m - 1) ≤ i ∧ i < s.k ∧ s.met i = x := by
    intro x hx
    by_cases hex : ∃ i, s.pos (s.m - 1) ≤ i ∧ i < s.k ∧ s.met i = x
    · exact hex
    · exact absurd hx (hsm x (fun i i1 i2 e => hex ⟨i, i1, i2, e⟩))
  refine ⟨fun e => if S.L.blk e = LA.nb + s.nb + 1 then s.nb + 1 else s.blk e, ?_⟩
  have hc := hinv.cut ok hm hq hlow (fun e => if S.L.blk e = LA.nb + s.nb + 1 then s.nb + 1 else s.blk e)
    (fun i i1 i2 => by show (if S.L.blk (s.met i) = _ then _ else _) = _; rw [if_pos (h.blk1 i (by omega) i2)])
    (fun x hx => by show (if S.L.blk x = _ then _ else _) = _; rw [if_neg (hsm x hx)])
  refine ⟨hc, h.lk.lay, h.nb, ?_, h.blko, h.dn, h.kbo, h.tle, h.nuo, ?_, h.tou, ?_, h.lk.loc, h.lk.mks, h.tb, ?_, h.mkb⟩
  · intro e he
    show S.L.blk e = if (if S.L.blk e = LA.nb + s.nb + 1 then s.nb + 1 else s.blk e) = 0 then 0 else LA.nb + (if S.L.blk e = LA.nb + s.nb + 1 then s.nb + 1 else s.blk e)
    by_cases hb : S.L.blk e = LA.nb + s.nb + 1
    · rw [if_pos hb, if_neg (by omega), hb]; omega
    · rw [if_neg hb]
      exact h.blk2 e he (fun i i1 i2 e1 => hb (by rw [← e1]; exact h.blk1 i i1 i2))
  · intro i hi
    have := h.lk.li3 i hi
    show 0 ≤ S.laid i ∧ S.laid i ≤ ((s.nb + 1 : Nat) : Int)
    omega
  · intro β b1 b2
    have nb := h.nb
    rcases Nat.lt_or_ge β (LA.nb + s.nb + 1) with hlt | hge
    · exact h.full β b1 (by omega)
    · refine ⟨s.met (s.pos (s.m - 1)), ?_⟩
      rw [h.blk1 _ (by omega) pst.1]; omega
  · have := h.nbb
    have := h.nb
    have := pst.1
    omega
end
end Go.Proofs.Qxb6602148a
