/-
  'split': what it is handed, plainly; the state as the search begins.
-/
import Derived.Test.Qxb6602148aWm
attribute [local go_sem] Go.Proofs.Qxb6602148a.yTo Go.Proofs.Qxb6602148a.yUpon
namespace Go.Proofs.Qxb6602148a
open Go.RowKit
set_option linter.unusedVariables false
set_option linter.unusedSimpArgs false

theorem Lay.marked {P0 P : PS} {L : LS} (h : Lay P0 P L) {m : Int} {mk lc : Nat → Int} (hm : ∀ s, s < P.nS → mk s ≤ m) : Lay P0 (P.marked m mk lc) L :=
  ⟨h.nE, h.nK, h.nQ, h.nF, h.nS, h.free, h.nU, h.nC, h.unused, h.keep, h.move, h.kb0, h.kbm, h.kbt, h.nuinj, h.node, h.comp, h.mn, h.mem, h.edg, h.idx, h.olds, h.oldc, hm, h.out1, h.out2, h.out3⟩
theorem Lay.blk_le {P0 P : PS} {L : LS} (h : Lay P0 P L) (e : Nat) : L.blk e ≤ L.nb := by
  by_cases h0 : L.blk e = 0
  · omega
  · exact (h.move e h0).1

/-- Edge e leads from the i-th of the slots to the l-th. -/
def Inn (P0 : PS) (N : Nat) (str : Nat → Nat) (i e l : Nat) : Prop := i < N ∧ l < N ∧ (∃ j, j < P0.on (str i) ∧ P0.out (str i) j = (e : Int)) ∧ P0.to e = ((str l : Nat) : Int)

/-- What 'split' is handed: P0 is the state before the first of several calls. -/
structure SGo (P0 P : PS) (LA : LS) (N : Nat) (str : Nat → Nat) : Prop where
  lay : Lay P0 P LA
  sp : Spare P0
  nE : P0.nE ≤ 4096
  nS : P0.nS ≤ 100000
  nC : P0.nC ≤ 100000
  m0 : ∀ j, j < P0.nU → P0.mn (P0.unused j).toNat = 0
  N1 : 0 < N ∧ N ≤ 4096
  lt : ∀ i, i < N → str i < P0.nS
  inj : ∀ i j, i < N → j < N → str i = str j → i = j
  old : ∀ i, i < N → ∀ k, str i ≠ P0.ns k
  mks : 0 ≤ P.marks ∧ P.marks ≤ P0.marks + (LA.nb : Int) ∧ P.marks < 1000000
  tb : LA.t ≤ 2 * cnt (nz LA) P0.nE
  nbb : LA.nb ≤ cnt (nz LA) P0.nE
  edge : ∀ i j, i < N → j < P0.on (str i) → ∃ e t : Nat, P0.out (str i) j = (e : Int) ∧ e < P0.nE ∧ P0.fr e = ((str i : Nat) : Int) ∧ P0.to e = (t : Int) ∧ t < P0.nS ∧ t ≠ str i ∧ LA.blk e = 0 ∧ ¬ LA.dn e
  incr : ∀ i j j', i < N → j < j' → j' < P0.on (str i) → P0.out (str i) j < P0.out (str i) j'
  conn : ∀ a b, a < N → b < N → Rch (fun a b => ∃ e, Inn P0 N str a e b ∨ Inn P0 N str b e a) a b

section
variable {P0 P : PS} {LA : LS} {N : Nat} {str : Nat → Nat} {mk lc : Nat → Int} {eN eE : Nat → Nat}

theorem SGo.same (h : SGo P0 P LA N str) {i : Nat} (hi : i < N) : P.on (str i) = P0.on (str i) ∧ P.out (str i) = P0.out (str i) := by
  obtain ⟨_, _, _, o1, o2⟩ := h.lay.olds (str i) (fun k _ => h.old i hi k)
  exact ⟨o1, o2⟩
theorem SGo.pre (h : SGo P0 P LA N str) : SPre P N str := by
  have nS : P0.nS ≤ P.nS := by rw [h.lay.nS]; omega
  refine ⟨fun i hi => Nat.lt_of_lt_of_le (h.lt i hi) nS, h.inj, fun i j hi hj => ?_, fun i j j' hi h1 h2 => ?_, h.lay.mark, ?_⟩
  · obtain ⟨o1, o2⟩ := h.same hi
    rw [o1] at hj
    rw [o2]
    obtain ⟨e, t, a1, a2, a3, a4, a5, a6, a7, a8⟩ := h.edge i j hi hj
    obtain ⟨k1, k2⟩ := h.lay.keep e a7
    exact ⟨e, t, a1, by rw [h.lay.nE]; exact a2, by rw [k2]; exact a4, by omega, a6, by rw [k1]; exact a3⟩
  · obtain ⟨o1, o2⟩ := h.same hi
    rw [o1] at h2
    rw [o2]
    exact h.incr i j j' hi h1 h2
  · exact ⟨by rw [h.lay.nE]; exact h.nE, h.N1.2, h.N1.1, h.mks.1, h.mks.2.2⟩

/-- The undirected graph's edges. -/
theorem SGo.inc (h : SGo P0 P LA N str) (hm : Mkd (P.marked (P.marks + 1) mk lc) N str) (hf : Filled (AGof (P.marked (P.marks + 1) mk lc) N str) N 0 eN eE) (a e b : Nat) :
    ((AGof (P.marked (P.marks + 1) mk lc) N str).ug eN eE).inc a e b ↔ Inn P0 N str a e b ∨ Inn P0 N str b e a := by
  have key : ∀ i j, i < N → j < P0.on (str i) → (AGof (P.marked (P.marks + 1) mk lc) N str).inE ((AGof (P.marked (P.marks + 1) mk lc) N str).ed i j) = true →
      Inn P0 N str i ((AGof (P.marked (P.marks + 1) mk lc) N str).ed i j) ((AGof (P.marked (P.marks + 1) mk lc) N str).lcl ((AGof (P.marked (P.marks + 1) mk lc) N str).ed i j)) := by
    intro i j hi hj hin
    obtain ⟨o1, o2⟩ := h.same hi
    obtain ⟨e, t, a1, a2, a3, a4, a5, a6, a7, a8⟩ := h.edge i j hi hj
    obtain ⟨k1, k2⟩ := h.lay.keep e a7
    have b1 : (P.marked (P.marks + 1) mk lc).out (str i) j = (e : Int) := by show P.out (str i) j = _; rw [o2]; exact a1
    have b4 : (P.marked (P.marks + 1) mk lc).to e = (t : Int) := by show P.to e = _; rw [k2]; exact a4
    have hmt : (P.marked (P.marks + 1) mk lc).mark t = (P.marked (P.marks + 1) mk lc).marks := by
      by_cases hmt : (P.marked (P.marks + 1) mk lc).mark t = (P.marked (P.marks + 1) mk lc).marks
      · exact hmt
      · rw [hm.out b1 b4 hmt] at hin; cases hin
    have nS : P0.nS ≤ P.nS := by rw [h.lay.nS]; omega
    obtain ⟨l, hl, ht, _, h5, _, h7⟩ := hm.lcl hi (show j < (P.marked (P.marks + 1) mk lc).on (str i) by show j < P.on (str i); rw [o1]; exact hj) b1 b4 (show t < P.nS by omega) hmt
    rw [h5, h7]
    exact ⟨hi, hl, ⟨j, hj, a1⟩, by rw [a4, ht]⟩
  have bak : ∀ i e l, Inn P0 N str i e l → ∃ j, j < P0.on (str i) ∧ (AGof (P.marked (P.marks + 1) mk lc) N str).ed i j = e ∧ (AGof (P.marked (P.marks + 1) mk lc) N str).inE e = true ∧ (AGof (P.marked (P.marks + 1) mk lc) N str).lcl e = l := by
    rintro i e l ⟨hi, hl, ⟨j, hj, hj2⟩, ht⟩
    obtain ⟨o1, o2⟩ := h.same hi
    obtain ⟨e', t, a1, a2, a3, a4, a5, a6, a7, a8⟩ := h.edge i j hi hj
    have ee : e' = e := by rw [hj2] at a1; omega
    subst ee
    obtain ⟨k1, k2⟩ := h.lay.keep e' a7
    have tt : t = str l := by rw [a4] at ht; omega
    subst tt
    have b1 : (P.marked (P.marks + 1) mk lc).out (str i) j = (e' : Int) := by show P.out (str i) j = _; rw [o2]; exact a1
    have b4 : (P.marked (P.marks + 1) mk lc).to e' = ((str l : Nat) : Int) := by show P.to e' = _; rw [k2]; exact a4
    have nS : P0.nS ≤ P.nS := by rw [h.lay.nS]; omega
    obtain ⟨l', hl', ht', _, h5, h6, h7⟩ := hm.lcl hi (show j < (P.marked (P.marks + 1) mk lc).on (str i) by show j < P.on (str i); rw [o1]; exact hj) b1 b4 (show str l < P.nS by omega) (hm.mk1 l hl).1
    have : l = l' := h.inj l l' hl hl' ht'
    subst this
    rw [h7] at h5 h6
    exact ⟨j, hj, h7, h6, h5⟩
  rw [hf.inc a e b]
  constructor
  · rintro ⟨ha, i, j, h1, h2, h3, rfl, h4⟩
    have h2 : j < P0.on (str i) := by
      have h2 : j < P.on (str i) := h2
      rwa [(h.same h1).1] at h2
    have := key i j h1 h2 h3
    rcases h4 with ⟨rfl, rfl⟩ | ⟨rfl, rfl⟩
    · exact .inl this
    · exact .inr this
  · rintro (h1 | h1)
    · obtain ⟨j, b1, b2, b3, b4⟩ := bak _ _ _ h1
      refine ⟨h1.1, a, j, h1.1, ?_, by rw [b2]; exact b3, b2.symm, .inl ⟨rfl, by rw [b2]; exact b4.symm⟩⟩
      show j < P.on (str a); rw [(h.same h1.1).1]; exact b1
    · obtain ⟨j, b1, b2, b3, b4⟩ := bak _ _ _ h1
      refine ⟨h1.2.1, b, j, h1.1, ?_, by rw [b2]; exact b3, b2.symm, .inr ⟨by rw [b2]; exact b4.symm, rfl⟩⟩
      show j < P.on (str b); rw [(h.same h1.1).1]; exact b1

/-- What is known of an edge that takes part. -/
theorem SGo.inn (h : SGo P0 P LA N str) {i e l : Nat} (hi : Inn P0 N str i e l) : e < P0.nE ∧ P0.fr e = ((str i : Nat) : Int) ∧ LA.blk e = 0 ∧ ¬ LA.dn e := by
  obtain ⟨h1, h2, ⟨j, hj, hj2⟩, ht⟩ := hi
  obtain ⟨e', t, a1, a2, a3, a4, a5, a6, a7, a8⟩ := h.edge i j h1 hj
  have ee : e' = e := by rw [hj2] at a1; omega
  subst ee
  exact ⟨a2, a3, a7, a8⟩
theorem SGo.orient (h : SGo P0 P LA N str) (U : UG) (hN : U.N = N) (hU : ∀ a e b, U.inc a e b ↔ Inn P0 N str a e b ∨ Inn P0 N str b e a) : Orient P0 U N str := by
  refine ⟨hN, fun a e b hi => ?_, h.old, h.inj⟩
  rcases (hU a e b).1 hi with h1 | h1
  · obtain ⟨b1, b2, _⟩ := h.inn h1
    exact ⟨a, b, h1.1, h1.2.1, b2, h1.2.2.2, (hU a e b).2 (.inl h1), b1⟩
  · obtain ⟨b1, b2, _⟩ := h.inn h1
    exact ⟨b, a, h1.1, h1.2.1, b2, h1.2.2.2, (hU b e a).2 (.inl h1), b1⟩
theorem SGo.outs (h : SGo P0 P LA N str) (U : UG) (hU : ∀ a e b, U.inc a e b ↔ Inn P0 N str a e b ∨ Inn P0 N str b e a) : Outs P0 LA U N str := by
  refine ⟨fun i j hi hj => ?_, h.incr, ?_, ?_, h.lt⟩
  · obtain ⟨e, t, a1, a2, a3, a4, a5, a6, a7, a8⟩ := h.edge i j hi hj
    exact ⟨e, a1, a2, a3, a7⟩
  · rintro e ⟨a, b, hi⟩
    rcases (hU a e b).1 hi with h1 | h1
    · obtain ⟨j, j1, j2⟩ := h1.2.2.1; exact ⟨a, j, h1.1, j1, j2⟩
    · obtain ⟨j, j1, j2⟩ := h1.2.2.1; exact ⟨b, j, h1.1, j1, j2⟩
  · rintro e ⟨a, b, hi⟩
    rcases (hU a e b).1 hi with h1 | h1
    · exact (h.inn h1).2.2.2
    · exact (h.inn h1).2.2.2
theorem SGo.free (h : SGo P0 P LA N str) (U : UG) (hU : ∀ a e b, U.inc a e b ↔ Inn P0 N str a e b ∨ Inn P0 N str b e a) {e : Nat} (he : ∃ a b, U.inc a e b) : LA.blk e = 0 := by
  obtain ⟨a, b, hi⟩ := he
  rcases (hU a e b).1 hi with h1 | h1
  · exact (h.inn h1).2.2.1
  · exact (h.inn h1).2.2.1

/-- As the search begins. -/
theorem SGo.sq (h : SGo P0 P LA N str) (U : UG) (ok : U.Ok) (hN : U.N = N) (hU : ∀ a e b, U.inc a e b ↔ Inn P0 N str a e b ∨ Inn P0 N str b e a) (hm : Mkd (P.marked (P.marks + 1) mk lc) N str) (hk : ∀ s, (∀ j, j < N → s ≠ str j) → mk s = P.mark s) :
    SQ P0 LA U N str (HS.init U) ⟨P.marked (P.marks + 1) mk lc, LA, fun _ => 0, fun _ => 0⟩ := by
  have hmk : ∀ s, s < P.nS → mk s ≤ P.marks + 1 := by
    intro s hs
    by_cases hex : ∃ j, j < N ∧ s = str j
    · obtain ⟨j, hj, rfl⟩ := hex
      have := (hm.mk1 j hj).1
      have : mk (str j) = P.marks + 1 := this
      omega
    · rw [hk s (fun j hj e => hex ⟨j, hj, e⟩)]
      have := h.lay.mark s hs
      omega
  have hmarks : (P.marked (P.marks + 1) mk lc).marks = P.marks + 1 := rfl
  have m1 := h.mks
  refine ⟨HInv.init ok (by rw [hN]; exact h.N1.1), h.lay.marked hmk, rfl, fun e he => ?_, fun e he => rfl, rfl, fun β hβ => rfl, Nat.le_refl _, fun k hk => rfl, fun i hi => ⟨Int.le_refl _, Int.le_refl _⟩, ?_, ?_, fun i hi => (hm.mk1 i hi).2, ?_, h.tb, h.nbb, ?_⟩
  · show LA.blk e = if (0 : Nat) = 0 then 0 else _
    rw [if_pos rfl]; exact h.free U hU he
  · intro k k1 k2
    have k2 : k < LA.t := k2
    omega
  · intro β b1 b2
    have b2 : β ≤ LA.nb := b2
    omega
  · show 0 ≤ P.marks + 1; omega
  · show P.marks + 1 ≤ _; omega
end

theorem gap_init {U : UG} (ok : U.Ok) : ∀ n, gap U U.st n + U.st 0 = U.st n
  | 0 => Nat.zero_add _
  | n + 1 => by
    have h1 := gap_init ok n
    have h2 := ok.mono n
    show gap U U.st n + (U.st (n + 1) - U.st n) + U.st 0 = U.st (n + 1)
    omega

/-- What 'split' leaves, plainly. -/
def SEnd (P0 : PS) (LA : LS) (N : Nat) (str : Nat → Nat) (S : SS) : Prop :=
  ∃ (U : UG) (s : HS), U.Ok ∧ U.N = N ∧ (∀ a e b, U.inc a e b ↔ Inn P0 N str a e b ∨ Inn P0 N str b e a) ∧ SPost P0 LA U s S ∧ S.P.marks ≤ P0.marks + (LA.nb : Int) + 1

/-- All edges that take part have been moved, as the search ends. -/
theorem SGo.full {P0 P : PS} {LA : LS} {N : Nat} {str : Nat → Nat} (h : SGo P0 P LA N str) {U : UG} (ok : U.Ok) (hN : U.N = N) (hU : ∀ a e b, U.inc a e b ↔ Inn P0 N str a e b ∨ Inn P0 N str b e a) {s : HS} {S0 : SS} (hq : SQ P0 LA U N str s S0) (hm : s.m = 1) (hsc : s.sc s.top = U.st (s.top + 1)) :
    (∀ e, (∃ a b, U.inc a e b) → S0.L.blk e = LA.nb + s.blk e ∧ 1 ≤ s.blk e ∧ s.blk e ≤ s.nb) ∧ ∀ e e', (∃ a b, U.inc a e b) → (∃ a b, U.inc a e' b) → (s.blk e = s.blk e' ↔ U.Eqv e e') := by
  have hc : ∀ v, v < U.N → Rch (fun a b => ∃ e, U.inc a e b) s.top v := by
    intro v hv
    refine (h.conn s.top v (by rw [← hN]; exact hq.inv.topidx.1) (by rw [← hN]; exact hv)).mono ?_
    rintro a b ⟨e, he⟩
    exact ⟨e, (hU a e b).2 he⟩
  obtain ⟨d1, d2, d3⟩ := hq.inv.done ok hm hsc hc
  refine ⟨fun e he => ?_, fun e e' he he' => ?_⟩
  · obtain ⟨a, b, hi⟩ := id he
    have := d2 a e b hi
    refine ⟨?_, this⟩
    rw [hq.blk e he, if_neg (by omega)]
  · obtain ⟨a, b, hi⟩ := he
    obtain ⟨a', b', hi'⟩ := he'
    exact d3 _ _ _ _ _ _ hi hi'

theorem SGo.post {P0 P : PS} {LA : LS} {N : Nat} {str : Nat → Nat} (h : SGo P0 P LA N str) {U : UG} (ok : U.Ok) (hN : U.N = N) (hU : ∀ a e b, U.inc a e b ↔ Inn P0 N str a e b ∨ Inn P0 N str b e a) {s : HS} {S0 S : SS} (hq : SQ P0 LA U N str s S0) (hm : s.m = 1) (hsc : s.sc s.top = U.st (s.top + 1)) (hF : FQ P0 LA U N str S0 N 0 S) : SEnd P0 LA N str S := by
  obtain ⟨f1, f2⟩ := h.full ok hN hU hq hm hsc
  obtain ⟨⟨on, out, hP⟩, ⟨dn, hL⟩, lay, hdn⟩ := hF
  have e1 : S.L.blk = S0.L.blk := by rw [hL]
  have e2 : S.L.nb = S0.L.nb := by rw [hL]
  have e3 : S.L.kb = S0.L.kb := by rw [hL]
  have e4 : S.L.t = S0.L.t := by rw [hL]
  have e5 : S.L.nu = S0.L.nu := by rw [hL]
  have e6 : S.P.fr = S0.P.fr := by rw [hP]
  have e7 : S.P.to = S0.P.to := by rw [hP]
  have e8 : S.P.marks = S0.P.marks := by rw [hP]
  have e9 : nz S.L = nz S0.L := by unfold nz; rw [e1]
  have hou := h.outs U hU
  refine ⟨U, s, ok, hN, hU, ⟨lay, by rw [e2]; exact hq.nb, fun e he => by rw [e1]; exact f1 e he, fun e he => by rw [e1]; exact hq.blko e he, f2, fun e => ?_, fun β hβ => by rw [e3]; exact hq.kbo β hβ, by rw [e4]; exact hq.tle, fun k hk => by rw [e5]; exact hq.nuo k hk, ?_, ?_, by rw [e8]; exact hq.mks, by rw [e4, e9]; exact hq.tb, by rw [e2, e9]; exact hq.nbb⟩, by rw [e8]; exact hq.mkb⟩
  · rw [hdn e]
    constructor
    · rintro (hd | ⟨hd, _⟩)
      · exact .inl hd
      · exact .inr hd
    · rintro (hd | hd)
      · exact .inl hd
      · obtain ⟨i, j, i1, j1, j2⟩ := hou.e3 e hd
        exact .inr ⟨hd, i, j, .inl i1, i1, j1, j2⟩
  · rw [e4, e1, e6, e7]; exact hq.tou
  · rw [e2, e1]; exact hq.full
end Go.Proofs.Qxb6602148a
