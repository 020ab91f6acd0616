import Derived.Test.Qxb6602148aWi
import Derived.Test.Qxb6602148aSto
attribute [local go_sem] Go.Proofs.Qxb6602148a.yTo Go.Proofs.Qxb6602148a.yUpon
namespace Go.Proofs.Qxb6602148a
open Go.RowKit
set_option linter.unusedVariables false
set_option linter.unusedSimpArgs false

/-- One round of the loop that lays a block out. -/
def B16 (c : Code) : Code := bl (lp (bl (tl 2 (CUT c))))

/-- What a call of 'slotOf' leaves: the state S'. -/
def SOut (x : SC0) (M : Fam) (w : World) (S' : SS) (bl c : Int) (w' : World) : Prop :=
  ∃ M', Rep KP w' M' ∧ PM M' S'.P ∧ Grew M w M' w' ∧ LocX XS M M' ∧ SB M' x.d.p x.d.N S'.laid S'.slin bl c ∧ M'.b 18 = M.b 18 ∧ M'.b 19 = M.b 19 ∧ M'.cap 18 = M.cap 18 ∧ M'.cap 19 = M.cap 19

/-- The stages of 'p.from[e], p.to[e] = slotOf(p.from[e]), slotOf(p.to[e])'. -/
def C76 (x : SC0) (M : Fam) (w : World) (S1 S2 : SS) (bl c : Int) (g1 g2 e : Nat) (v1 v2 : Int) : Nat → World → Prop
  | 0, w' => w' = w
  | 1, w' => SOut x M w S1 bl c w'
  | 2, w' => SOut x M w S2 bl c w'
  | 3, w' => ∃ w1, SOut x M w S2 bl c w1 ∧ w' = w1.setCell ⟨g1, e, none⟩ (.int .i64 v1)
  | 4, w' => ∃ w1, SOut x M w S2 bl c w1 ∧ w' = (w1.setCell ⟨g1, e, none⟩ (.int .i64 v1)).setCell ⟨g2, e, none⟩ (.int .i64 v2)
  | _, _ => False

/-- What is read at each stage. -/
structure Rd (x : SC0) (w' : World) (g1 g2 e nE k1 k2 : Nat) (f t : Int) : Prop where
  box : w'.cell? ⟨x.q33, 0, none⟩ = some (.pointer (some ⟨x.d.p, 0, none⟩))
  h1 : w'.cell? ⟨x.d.p, 1, none⟩ = some (.slice (some ⟨g1, 0, none⟩) nE k1)
  h2 : w'.cell? ⟨x.d.p, 2, none⟩ = some (.slice (some ⟨g2, 0, none⟩) nE k2)
  f : w'.cell? ⟨g1, e, none⟩ = some (.int .i64 f)
  t : w'.cell? ⟨g2, e, none⟩ = some (.int .i64 t)

theorem SOut.rd {x : SC0} {M : Fam} {w w' : World} {S S' : SS} {bl c : Int} (h : SOut x M w S' bl c w') {g1 g2 e : Nat} (hp : M.b 11 = some x.d.p) (b33 : M.b 33 = some x.q33) (b1 : M.b 1 = some g1) (b2 : M.b 2 = some g2) (hfr : S'.P.fr = S.P.fr) (hto : S'.P.to = S.P.to) (hnE : S'.P.nE = S.P.nE) (he : e < S.P.nE) :
    Rd x w' g1 g2 e S.P.nE (M.cap 1) (M.cap 2) (S.P.fr e) (S.P.to e) := by
  obtain ⟨M', r, pm, g, l, sb, _⟩ := h
  have a1 := l.ft 1 (.inl rfl)
  have a2 := l.ft 2 (.inr rfl)
  have p33 := l.row 33 (by unfold Own; omega) (by unfold XS; omega)
  have b1' : M'.b 1 = some g1 := a1.1.trans b1
  have b2' : M'.b 2 = some g2 := a2.1.trans b2
  have hp' : M'.b 11 = some x.d.p := l.p.trans hp
  refine ⟨(r.cell (p33.1.trans b33) (by rw [sb.n33]; decide)).trans (congrArg some sb.f33), ?_, ?_, ?_, ?_⟩
  · have := pm.hdr_some r hp' (show 1 < 11 by omega) b1'
    rw [pm.fr.1, a1.2, hnE] at this
    exact this
  · have := pm.hdr_some r hp' (show 2 < 11 by omega) b2'
    rw [pm.to.1, a2.2, hnE] at this
    exact this
  · rw [← hfr]; exact pm.fr.cell r b1' rfl (by rw [hnE]; exact he)
  · rw [← hto]; exact pm.to.cell r b2' rfl (by rw [hnE]; exact he)

theorem LK.pre {P0 : PS} {N : Nat} {str : Nat → Nat} {S : SS} {bl : Int} (h : LK P0 N str S bl) (hs : Spare P0) (ht : S.L.t ≤ 20000) (hn : P0.nS ≤ 100000) :
    (0 < S.P.nF → 0 ≤ S.P.free (S.P.nF - 1) ∧ S.P.free (S.P.nF - 1) < S.P.nS) ∧ S.P.nS < 1000000 ∧ P0.cs (S.L.nb - 1) < S.P.nC ∧ S.P.mn (P0.cs (S.L.nb - 1)) < 1000000 := by
  have nb := h.nb
  refine ⟨fun hF => ?_, ?_, h.lay.cs_lt hs (by omega), ?_⟩
  · rw [h.lay.free, h.lay.nS]
    have e := h.lay.nF
    have := hs.f1 (S.P.nF - 1) (by omega)
    omega
  · rw [h.lay.nS]; omega
  · rw [h.lay.mn _ (by omega), show S.L.nb - 1 + 1 = S.L.nb by omega, h.lay.kbt]; omega

/-- The first call of 'slotOf'. -/
theorem sout1 {x : SC0} {M : Fam} {w : World} {S : SS} {bl : Int} {str : Nat → Nat} {i c : Nat} (hR : Rep KP w M) (hM : PM M S.P) (hp : M.b 11 = some x.d.p) (hB : SB M x.d.p x.d.N S.laid S.slin bl (c : Nat)) (b33 : M.b 33 = some x.q33) (b31 : M.b 31 = some x.d.q31) (b24 : M.b 24 = some x.d.q24) (b25 : M.b 25 = some x.d.q25) (b32 : M.b 32 = some x.d.q32)
    (hu : str i < S.P.nS) (hl : S.P.loc (str i) = (i : Nat)) (hi : i < x.d.N) (hpre : (0 < S.P.nF → 0 ≤ S.P.free (S.P.nF - 1) ∧ S.P.free (S.P.nF - 1) < S.P.nS) ∧ S.P.nS < 1000000 ∧ c < S.P.nC ∧ S.P.mn c < 1000000) :
    Calls Try.prog 35 #[.int .i64 ((str i : Nat) : Int), .pointer (some ⟨x.q33, 0, none⟩), .pointer (some ⟨x.d.q31, 0, none⟩), .pointer (some ⟨x.d.q24, 0, none⟩), .pointer (some ⟨x.d.q25, 0, none⟩), .pointer (some ⟨x.d.q32, 0, none⟩)] w fun e w' => e = .returned (.int .i64 (S.slotVal i bl)) ∧ SOut x M w (S.slot (str i) i c bl) bl (c : Nat) w' :=
  slotOf_calls w M S x.d.p x.d.N (str i) i c x.q33 x.d.q31 x.d.q24 x.d.q25 x.d.q32 bl hR hM hp hB b33 b31 b24 b25 b32 hu hl hi hpre.1 hpre.2.1 hpre.2.2.1 hpre.2.2.2
/-- The second, wherever the first has led. -/
theorem sout2 {x : SC0} {M : Fam} {w w' : World} {S1 : SS} {bl : Int} {str : Nat → Nat} {l c : Nat} (h : SOut x M w S1 bl (c : Nat) w') (hp : M.b 11 = some x.d.p) (b33 : M.b 33 = some x.q33) (b31 : M.b 31 = some x.d.q31) (b24 : M.b 24 = some x.d.q24) (b25 : M.b 25 = some x.d.q25) (b32 : M.b 32 = some x.d.q32)
    (hu : str l < S1.P.nS) (hl : S1.P.loc (str l) = (l : Nat)) (hi : l < x.d.N) (hpre : (0 < S1.P.nF → 0 ≤ S1.P.free (S1.P.nF - 1) ∧ S1.P.free (S1.P.nF - 1) < S1.P.nS) ∧ S1.P.nS < 1000000 ∧ c < S1.P.nC ∧ S1.P.mn c < 1000000) :
    Calls Try.prog 35 #[.int .i64 ((str l : Nat) : Int), .pointer (some ⟨x.q33, 0, none⟩), .pointer (some ⟨x.d.q31, 0, none⟩), .pointer (some ⟨x.d.q24, 0, none⟩), .pointer (some ⟨x.d.q25, 0, none⟩), .pointer (some ⟨x.d.q32, 0, none⟩)] w' fun e w'' => e = .returned (.int .i64 (S1.slotVal l bl)) ∧ SOut x M w (S1.slot (str l) l c bl) bl (c : Nat) w'' := by
  obtain ⟨M1, r, pm, g, lo, sb, c1, c2, c3, c4⟩ := h
  have rw' := fun i (hi : Own i) (hx : ¬ XS i) => (lo.row i hi hx).1
  refine (sout1 r pm (lo.p.trans hp) sb ((rw' 33 (by unfold Own; omega) (by unfold XS; omega)).trans b33) ((rw' 31 (by unfold Own; omega) (by unfold XS; omega)).trans b31) ((rw' 24 (by unfold Own; omega) (by unfold XS; omega)).trans b24) ((rw' 25 (by unfold Own; omega) (by unfold XS; omega)).trans b25) ((rw' 32 (by unfold Own; omega) (by unfold XS; omega)).trans b32) hu hl hi hpre).mono ?_
  rintro e w2 ⟨rfl, M2, r2, pm2, g2, lo2, sb2, d1, d2, d3, d4⟩
  exact ⟨rfl, M2, r2, pm2, g.trans g2, lo.trans lo2, sb2, d1.trans c1, d2.trans c2, d3.trans c3, d4.trans c4⟩

/-- What the search is given. -/
structure SCx (x : SC0) : Prop where
  ok : x.U.Ok
  hN : x.U.N = x.d.N
  st : ∀ v, x.d.st v = ((x.U.st v : Nat) : Int)
  en : x.d.en = ev x.U.eN x.U.eE
  T : x.U.st x.d.N = x.d.T
  N1 : 0 < x.d.N ∧ x.d.N ≤ 4096
  T1 : x.d.T ≤ 137438953472
  nE : x.P0.nE ≤ 4096
  sp : Spare x.P0
  or : Orient x.P0 x.U x.d.N x.str
  m0 : ∀ j, j < x.P0.nU → x.P0.mn (x.P0.unused j).toNat = 0
  dn : ∀ e, (∃ a b, x.U.inc a e b) → ¬ x.LA.dn e
  LA : ∀ e, x.LA.blk e ≤ x.LA.nb
  lt : ∀ i, i < x.d.N → x.str i < x.P0.nS
  hp : x.M.b 11 = some x.d.p
  nS : x.P0.nS ≤ 100000
  nC : x.P0.nC ≤ 100000


theorem lit_of2 {x : SC0} {gq kq : Nat} {a : Act} (hf : FIC x gq kq a) : ∃ y, a = LIT y x gq kq (a.tmps.getD 27 undef) (a.tmps.getD 28 undef) (a.tmps.getD 29 undef) (a.tmps.getD 30 undef) (a.tmps.getD 31 undef) (a.tmps.getD 32 undef) ∧ ∀ i, y i = a.tmps.getD i undef := by
  obtain ⟨tmps, defers⟩ := a
  have yd : defers = [] := hf.df
  subst yd
  have h := litv tmps hf.sz
  have s1 := hf.s1
  have s2 := hf.s2
  have s6 := hf.s6
  have s13 := hf.s13
  have s20 := hf.s20
  have s21 := hf.s21
  have s22 := hf.s22
  have s23 := hf.s23
  have s24 := hf.s24
  have s25 := hf.s25
  have s26 := hf.s26
  dsimp only at s1 s2 s6 s13 s20 s21 s22 s23 s24 s25 s26
  rw [s1, s2, s6, s13, s20, s21, s22, s23, s24, s25, s26] at h
  exact ⟨fun i => tmps.getD i undef, h, fun _ => rfl⟩

theorem SIn.setfr {w wr : World} {M M' : Fam} {p q33 : Nat} {P' : PS} (h : SIn w M p q33 wr M' P') {g : Nat} (b1 : M'.b 1 = some g) (e : Nat) (v : Int) : SIn w M p q33 (wr.setCell ⟨g, e, none⟩ (.int .i64 v)) (M'.set 1 e (.int .i64 v)) { P' with fr := upd P'.fr e v } :=
  ⟨h.rep.set b1 e _, h.pm.set_fr e v, h.grew.set ⟨1, b1⟩ _ _ _ _, h.loc.set (.inl (by unfold Own; omega)), h.b33, h.n33, by rw [set_F _ (by omega)]; exact h.f33⟩
theorem SIn.setto {w wr : World} {M M' : Fam} {p q33 : Nat} {P' : PS} (h : SIn w M p q33 wr M' P') {g : Nat} (b1 : M'.b 2 = some g) (e : Nat) (v : Int) : SIn w M p q33 (wr.setCell ⟨g, e, none⟩ (.int .i64 v)) (M'.set 2 e (.int .i64 v)) (P'.setTo e v) :=
  ⟨h.rep.set b1 e _, h.pm.set_to e v, h.grew.set ⟨2, b1⟩ _ _ _ _, h.loc.set (.inl (by unfold Own; omega)), h.b33, h.n33, by rw [set_F _ (by omega)]; exact h.f33⟩

theorem b16_tail (x : SC0) (gq kq : Nat) (a : Act) (s : HS) (S S2 : SS) (kk : Nat) (cq : Nat → Int) (M3 : Fam) (w0 w1 : World) (cc e via g1 g2 : Nat) (v1 v2 : Int) (v27 v28 v29 : Value) (I Lw Mt : Nat → Int)
    (mem3 : SMem x I Lw (s.m - 1) cq (kk - 1) Mt S ((s.nb : Int) + 1) ((cc : Nat) : Int) M3 w0) (hs2 : SOut x M3 w0 S2 ((s.nb : Int) + 1) ((cc : Nat) : Int) w1) (b1 : M3.b 1 = some g1) (b2 : M3.b 2 = some g2) (hp : x.M.b 11 = some x.d.p) (hc : cc < S2.P.nC) (hev2 : 0 ≤ S2.P.edg cc ∧ S2.P.edg cc ≤ 1000000)
    (hf : FIC x gq kq a) (h27 : a.tmps.getD 27 undef = v27) (h28 : a.tmps.getD 28 undef = v28) (h29 : a.tmps.getD 29 undef = v29) (h33 : a.tmps.getD 33 undef = .int .i64 (via : Int)) (h35 : a.tmps.getD 35 undef = .int .i64 (e : Int)) (Q : Exit → Act → World → Prop)
    (hQ1 : ∀ (a : Act) (w' : World) (M6 : Fam), FIC x gq kq a → a.tmps.getD 27 undef = v27 → a.tmps.getD 28 undef = v28 → a.tmps.getD 29 undef = v29 → a.tmps.getD 33 undef = .int .i64 (via : Int) → M6.val 23 = M3.val 23 → M6.val 27 = M3.val 27 → SMem x I Lw (s.m - 1) cq (kk - 1) Mt (S2.assign cc e v1 v2) ((s.nb : Int) + 1) ((cc : Nat) : Int) M6 w' → e = via → Q (.exit 15) a w')
    (hQ2 : ∀ (a : Act) (w' : World) (M6 : Fam), FIC x gq kq a → a.tmps.getD 27 undef = v27 → a.tmps.getD 28 undef = v28 → a.tmps.getD 29 undef = v29 → a.tmps.getD 33 undef = .int .i64 (via : Int) → M6.val 23 = M3.val 23 → M6.val 27 = M3.val 27 → SMem x I Lw (s.m - 1) cq (kk - 1) Mt (S2.assign cc e v1 v2) ((s.nb : Int) + 1) ((cc : Nat) : Int) M6 w' → e ≠ via → Q .normal a w') :
    Code.wp Try.prog (B16b (Try.f29.body.getD .skip)) Q a ((w1.setCell ⟨g1, e, none⟩ (.int .i64 v1)).setCell ⟨g2, e, none⟩ (.int .i64 v2)) := by
  obtain ⟨M4, r, pm, g, lo, sb, c1, c2, c3, c4⟩ := hs2
  have s4 := mem3.sin.slot' r pm g lo
  have r4 := mem3.sr.slot lo sb c1 c2
  have b1' : M4.b 1 = some g1 := (lo.ft 1 (.inl rfl)).1.trans b1
  have b2' : M4.b 2 = some g2 := (lo.ft 2 (.inr rfl)).1.trans b2
  have s5 := (s4.setfr b1' e v1).setto (g := g2) b2' e v2
  have r5 := (r4.other (i := 1) (j := e) (v := .int .i64 v1) (by unfold SX; omega)).other (i := 2) (j := e) (v := .int .i64 v2) (by unfold SX; omega)
  obtain ⟨y, hy, hyi⟩ := lit_of2 hf
  have hv : ∀ i, Own i → ¬ XS i → ∀ v, (((M4.set 1 e (.int .i64 v1)).set 2 e (.int .i64 v2)).set 7 cc v).val i = M3.val i := fun i hi hx v => lo.val hi hx
  rw [hy, h27, h28, h29]
  refine walk_b16b x gq kq y v27 v28 v29 _ _ _ _ _ _ cc e via (S2.P.edg cc) s5 hp r5.bb.2.1 r5.sb.c hc rfl hev2 ((hyi 33).trans h33) ((hyi 35).trans h35) Q ?_ ?_
  · intro a' w' f1 f2 f3 f4 f5 hin he
    exact hQ1 a' w' _ f1 f2 f3 f4 f5 (hv 23 (by unfold Own; omega) (by unfold XS; omega) _) (hv 27 (by unfold Own; omega) (by unfold XS; omega) _) ⟨hin, r5.other (by unfold SX; omega)⟩ he
  · intro a' w' f1 f2 f3 f4 f5 hin he
    exact hQ2 a' w' _ f1 f2 f3 f4 f5 (hv 23 (by unfold Own; omega) (by unfold XS; omega) _) (hv 27 (by unfold Own; omega) (by unfold XS; omega) _) ⟨hin, r5.other (by unfold SX; omega)⟩ he
end Go.Proofs.Qxb6602148a
