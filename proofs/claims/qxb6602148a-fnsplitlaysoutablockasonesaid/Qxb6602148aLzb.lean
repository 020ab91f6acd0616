/-
  The third law: 'split'.
-/
import Derived.Test.Qxb6602148aLza
import Derived.Test.Qxb6602148aLg
import Derived.Test.Qxb6602148aBt
import Derived.Test.Qxb6602148aSyb
attribute [local go_sem] Go.Proofs.Qxb6602148a.yTo Go.Proofs.Qxb6602148a.yUpon
namespace Go.Proofs.Qxb6602148a
open Go.RowKit
set_option linter.unusedVariables false
set_option linter.unusedSimpArgs false


theorem Rep.join {w : World} {M : Fam} {q g n k : Nat} {F : Nat → Value} (hR : Rep KP w M) (hS : Rep KP w (Fam.nil.put q (some g) n k F)) (hn : ∀ i, M.b i ≠ some g) : Rep KP w (M.put q (some g) n k F) := by
  refine ⟨fun i => ?_, fun i j g' hi hj => ?_⟩
  · by_cases e : i = q
    · subst e
      have := hS.row i
      simp only [Fam.put, if_true] at this ⊢
      exact this
    · have := hR.row i
      simp only [Fam.put, if_neg e]
      exact this
  · by_cases e1 : i = q
    · subst e1
      rw [put_bs] at hi
      injection hi with hi
      subst hi
      by_cases e2 : j = i
      · exact e2.symm
      · rw [put_b e2] at hj; exact absurd hj (hn j)
    · rw [put_b e1] at hi
      by_cases e2 : j = q
      · subst e2
        rw [put_bs] at hj
        injection hj with hj
        subst hj
        exact absurd hi (hn i)
      · rw [put_b e2] at hj; exact hR.inj i j g' hi hj
/-- The list handed lies in row 12. -/
structure Q12 (M : Fam) (P : PS) (c gS : Nat) (str : Nat → Nat) : Prop where
  b : M.b 12 = some gS
  cap : M.cap 12 = P.mn c
  l : Ints M 12 (P.mn c) (fun i => ((str i : Nat) : Int))
  ord : Ord P c str
/-- Behind 'split'. -/
structure S35 (w w9 : World) (G : GR) (p : Nat) (M' : Fam) (P P2 : PS) (V : Fam) (gB c : Nat) (nu : Nat → Nat) (R : Nat → Nat → Bool) (nc : Nat) (cls : Nat → Nat) (g0 g1 g2 g3 gM : Nat) : Prop where
  ok : G.Ok
  pin : PIn w9 M' P2 p
  rv : Rep KV w9 V
  vm : VM V P
  box : w9.heap[gB]? = some (.cells #[V.val 0, V.val 1, V.val 2, V.val 3, V.val 4, V.val 5, V.val 6] 35)
  gr : Grew Fam.nil w M' w9
  meet : Meet (G.md R nc cls) P
  calm : Calm P
  c1 : c < P.nC
  c2 : P.mn c ≠ 0
  sf : SF G.E P c (P.cs 0) nu P2
  sm : P.nS ≤ 200000 ∧ P.nC ≤ 200000 ∧ P2.nS ≤ 200000 ∧ P2.nC ≤ 200000
  mcl : MCl G R nc cls g0 g1 g2 g3 w9
  bm : w9.heap[gM]? = some (.cells #[.int .i64 (G.n : Int), .slice (some ⟨g0, 0, none⟩) G.E G.E, .slice (some ⟨g1, 0, none⟩) G.E G.E, .slice (some ⟨g2, 0, none⟩) G.E G.E, .slice (some ⟨g3, 0, none⟩) G.E G.E, .int .i64 (nc : Int)] 29)
theorem S13.spl {w w8 : World} {G : GR} {p : Nat} {M : Fam} {P : PS} {V : Fam} {gB c : Nat} {R : Nat → Nat → Bool} {nc : Nat} {cls : Nat → Nat} {g0 g1 g2 g3 gM : Nat} {gS : Nat} {str : Nat → Nat} (h : S13 w w8 G p M P V gB c R nc cls g0 g1 g2 g3 gM) (q : Q12 M P c gS str) :
    Calls Try.prog 21 #[.pointer (some ⟨p, 0, none⟩), .slice (some ⟨gS, 0, none⟩) (P.mn c) (P.mn c)] w8 fun e w9 => e = .returned (.tuple #[]) ∧ ∃ M' P2 nu, S35 w w9 G p M' P P2 V gB c nu R nc cls g0 g1 g2 g3 gM := by
  have hgo := h.meet.bsgo h.ok h.mcl.ok h.calm h.c1 h.c2 q.ord
  have hsp := split_calls w8 M P P LS.none p 12 gS (P.mn c) str h.pin.rep h.pin.pm h.pin.b11 ⟨by omega, by omega⟩ (by unfold XA; omega) rfl q.b q.l hgo
  rw [q.cap] at hsp
  refine zzSplit_calls w8 p _ _ _ (fun w9 => ∃ M' P2 nu, S35 w w9 G p M' P P2 V gB c nu R nc cls g0 g1 g2 g3 gM) (hsp.mono ?_)
  rintro e w9 ⟨rfl, S, M', r, pm, gr, lo, en⟩
  obtain ⟨nu, sf⟩ := h.meet.bsplit h.ok h.mcl.ok h.calm h.c1 h.c2 q.ord en
  have enC := h.meet.bnb h.ok h.mcl.ok h.calm h.c1 h.c2 q.ord en
  refine ⟨rfl, M', S.P, nu, ?_⟩
  have nS := h.nS
  have nC := h.nC
  have nE' : P.nE = G.E := h.meet.nE
  have hE := h.ok.E
  have mnc := h.meet.mn_le h.c1
  have inE : ∀ e, InC P (P.mn c) (P.sl c) e → e < G.E := fun e hi => ((h.meet.binC h.c1 h.c2).1 hi).1
  generalize S.P = P2 at *
  have nS2 : P2.nS ≤ 100000 := by rw [sf.nS]; omega
  have nC2 : P2.nC ≤ 100000 := by omega
  have blk : ∀ (g : Nat) (o : Obj), w8.heap[g]? = some o → (∀ j, M.b j ≠ some g) → w9.heap[g]? = some o := fun g o ho hn => by
    rw [gr.block g (Array.getElem?_eq_some_iff.1 ho).1 hn]; exact ho
  refine ⟨h.ok, ⟨r, pm, lo.p.trans h.pin.b11, ⟨by rw [sf.nE]; omega, by omega, by omega⟩, fun s hs => ?_, fun c' hc' => ?_⟩, h.rv.kept (fun i g hb' => gr.block g (h.rv.lt hb') (h.vn i g hb')), h.vm, blk _ _ h.box h.bn, h.gr.trans gr, h.meet, h.calm, h.c1, h.c2, sf, ⟨by omega, by omega, by omega, by omega⟩, h.mcl.kept (fun g hg j v hv => gr.cellM (fun i => ?_) hv), blk _ _ h.bm (fun j => (h.mn j).2.2.2.2)⟩
  · by_cases hk : ∃ k, k < P.mn c ∧ P.ns k = s
    · obtain ⟨k, k1, rfl⟩ := hk
      have key : ∀ i, i < P2.on (P.ns k) → ∃ e : Nat, P2.out (P.ns k) i = (e : Int) ∧ e < G.E := fun i hi => by
        obtain ⟨e, e1, e2, _⟩ := sf.out1 k i k1 hi
        exact ⟨e, e1, inE e e2⟩
      have := pigeon G.E (P2.on (P.ns k)) (fun i => (P2.out (P.ns k) i).toNat) (fun i hi => by
        obtain ⟨e, e1, e2⟩ := key i hi
        show (P2.out (P.ns k) i).toNat < G.E
        rw [e1, Int.toNat_natCast]; exact e2) (fun i j hi hj ee => by
        obtain ⟨e, e1, e2⟩ := key i hi
        obtain ⟨e', e1', e2'⟩ := key j hj
        have ee : (P2.out (P.ns k) i).toNat = (P2.out (P.ns k) j).toNat := ee
        rw [e1, e1', Int.toNat_natCast, Int.toNat_natCast] at ee
        rcases Nat.lt_trichotomy i j with hl | hl | hl
        · have := sf.out3 k i j k1 hl hj; omega
        · exact hl
        · have := sf.out3 k j i k1 hl hi; omega)
      omega
    · obtain ⟨_, _, q3, _⟩ := sf.olds s (fun k hk1 e => hk ⟨k, hk1, e.symm⟩)
      have hlt : s < P.nS := by
        refine Classical.byContradiction fun hn => hk ⟨P.nF + (s - P.nS), ?_, ?_⟩
        · have := sf.nS; omega
        · unfold PS.ns; rw [if_neg (by omega)]; omega
      have := h.meet.on_le hlt
      have e1 : (G.md R nc cls).E = G.E := rfl
      omega
  · by_cases hd : c' = P.cs 0
    · subst hd; rw [sf.mn]; omega
    · rw [(sf.oldc c' hd).1]
      have hlt : c' < P.nC := by
        refine Classical.byContradiction fun hn => hd ?_
        unfold PS.cs
        rw [if_neg (by omega)]; omega
      have := h.meet.mn_le hlt
      omega
  · obtain ⟨m0, m1, m2, m3, _⟩ := h.mn i
    rcases hg with rfl | rfl | rfl | rfl
    · exact m0
    · exact m1
    · exact m2
    · exact m3
end Go.Proofs.Qxb6602148a
