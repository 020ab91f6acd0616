/-
  'zzBuildModel': one edge of a list, whole.
-/
import Derived.Test.Qxb6602148aMdm
attribute [local go_sem] Go.Proofs.Qxb6602148a.yTo Go.Proofs.Qxb6602148a.yUpon
namespace Go.Proofs.Qxb6602148a
open Go.RowKit
set_option linter.unusedVariables false
set_option linter.unusedSimpArgs false

set_option maxRecDepth 40000 in
set_option maxHeartbeats 8000000 in
/-- Block 29. -/
theorem md_14d (w0 : World) (G : GR) (a0 : Option Addr) (k0 ga gm g0 g1 g2 g3 : Nat) (R : Nat → Nat → Bool) (g8 g9 g10 : Nat) (v20 : Value) (rd x : Nat) (v31 : Value) (i j : Nat) (rt : Nat → Nat) (B nc : Nat) (cn : Nat → Nat) (cl : Nat → Nat → Nat) (ok : G.Ok) (hrt : RtI G R x G.E rt) (hc : PT (Sb G R G.E) (Rl G R x) nc cn cl) (hi : i < nc) (hj : j < cn i) (hrd : rd ≤ 100000000) (wr : World) (hJ : RJ w0 G ga gm g0 g1 g2 g3 R g8 g9 g10 v20 rd x rt B nc cn cl i j v31 wr)
    (a : Act) (hf : FXs a0 G.n k0 ga gm G.E g8 g9 g10 v20 rd x v31 i j a) (Q : Exit → Act → World → Prop)
    (hC : ∀ (a : Act) (w : World) (v31 : Value), FXs a0 G.n k0 ga gm G.E g8 g9 g10 v20 rd x v31 i j a → RJ w0 G ga gm g0 g1 g2 g3 R g8 g9 g10 v20 rd x rt B nc cn cl i (j + 1) v31 w → Q .normal a w) :
    Code.wp Try.prog (f10r (Try.f10.body.getD .skip)) Q a wr := by
  have hn := ok.n
  have hE := ok.E
  have HJ : Hid (RJ w0 G ga gm g0 g1 g2 g3 R g8 g9 g10 v20 rd x rt B nc cn cl i j v31 wr) := hJ
  obtain ⟨par, dp, st, wh, nr, rn, rl, D, hX, hU, hP⟩ := hJ
  have lf := (hc.el i j hi hj).1
  have hncE : nc ≤ G.E := hc.nc_le (fun f hf => hf.1)
  have hcnE : cn i ≤ G.E := hc.cn_le (fun f hf => hf.1) hi
  have n7 : D.n 7 = nc := hX.xa.l7.n
  obtain ⟨g7, b7⟩ := hX.xa.xb.ds.rep.hasBlock (i := 7) (by rw [n7]; omega)
  have v7 := hX.xa.v7
  rw [val_some b7, n7] at v7
  have l7 := hX.xa.xb.ds.rep.le_cap 7
  rw [n7] at l7
  generalize D.cap 7 = k7 at *
  subst v7
  obtain ⟨y, rfl⟩ := litt hf.fv.fx.fe.fm.sz hf.fv.fx.fe.fm.df hf.fv.fx.fe.fm.s0 hf.fv.fx.fe.fm.s2 hf.fv.fx.fe.fm.s3 hf.fv.fx.fe.fm.s4 hf.fv.fx.fe.s5 hf.fv.s20 hf.fv.fx.s25 hf.fv.fx.s26 hf.fv.fx.s27 hf.fv.s28 hf.fv.s29 hf.s31 hf.s32 hf.s33
  have hL := hX.xa.l7.L i hi
  obtain ⟨gl, bl'⟩ := hX.xa.xb.ds.rep.hasBlock (i := 16 + B + i) (by rw [hL.1]; omega)
  have hv : D.val (16 + B + i) = .slice (some ⟨gl, 0, none⟩) (cn i) (D.cap (16 + B + i)) := by rw [val_some bl', hL.1]
  have ll := hX.xa.xb.ds.rep.le_cap (16 + B + i)
  rw [hL.1] at ll
  have x1 := (hX.xa.xb.ds.rep.cell b7 (j := i) (by rw [n7]; show i < nc * 1; omega)).trans (congrArg some ((hX.xa.l7.F i hi).trans hv))
  have x2 := hL.cell' hX.xa.xb.ds.rep bl' (KD_l B i) hj
  have z1 : wr.cell? ⟨gm, 1, none⟩ = some (.slice (some ⟨g0, 0, none⟩) G.E G.E) := DS.hd hX.xa.xb.ds (f := 1) (by decide)
  have z2 : wr.cell? ⟨gm, 2, none⟩ = some (.slice (some ⟨g1, 0, none⟩) G.E G.E) := DS.hd hX.xa.xb.ds (f := 2) (by decide)
  have z5 := hX.xa.xb.ds.i0.cell' hX.xa.xb.ds.rep hX.xa.xb.ds.b0 rfl lf
  have z6 := hX.xa.xb.ds.i1.cell' hX.xa.xb.ds.rep hX.xa.xb.ds.b1 rfl lf
  have hfi : ((cl i j : Nat) : Int) < (G.E : Int) := by omega
  have hii : (i : Int) < (nc : Int) := by omega
  have hji : (j : Int) < ((cn i : Nat) : Int) := by omega
  have ENE : Hid (G.sr (cl i j) ≠ x → ∀ a : Act, a.tmps.getD 35 undef = .int .i64 ((G.sr (cl i j) : Nat) : Int) → a.tmps.getD 35 undef = .int .i64 ((G.en x (cl i j) : Nat) : Int)) := fun h a ha => by rw [ha, GR.en_ne h]
  have EEQ : Hid (G.sr (cl i j) = x → ∀ a : Act, a.tmps.getD 35 undef = .int .i64 ((G.ds (cl i j) : Nat) : Int) → a.tmps.getD 35 undef = .int .i64 ((G.en x (cl i j) : Nat) : Int)) := fun h a ha => by rw [ha, GR.en_eq h]
  have E14 : Hid (∀ (a : Act), FXr a0 G.n k0 ga gm G.E g8 g9 g10 (.slice (some ⟨g7, 0, none⟩) nc k7) rd x v31 i j (cl i j) a → a.tmps.getD 35 undef = .int .i64 ((G.en x (cl i j) : Nat) : Int) → Code.wp Try.prog (tl 3 (f10r (Try.f10.body.getD .skip))) Q a wr) :=
    fun a hf h35 => md_14e w0 G a0 k0 ga gm g0 g1 g2 g3 R g8 g9 g10 _ rd x v31 i j rt B nc cn cl ok hrt hc hi hj hrd wr HJ.out a hf h35 Q hC
  clear hC hf hX hU hP HJ hrt hc ok hL hv bl' b7 n7
  generalize D.cap (16 + B + i) = kl at *
  generalize cn i = c at *
  generalize cl i j = f at *
  generalize G.en x f = en at *
  generalize G.sr f = s at *
  generalize G.ds f = d at *
  show Code.wp Try.prog (Code.seq _ (Code.seq _ (Code.seq (Code.seq _ (Code.cond (.tmp 379) _ Code.skip)) _))) Q _ wr
  refine wp_seq_k (fun K1 hK => ?_)
  have HK1 : Hid (∀ (a : Act) (w : World), _ → K1 a w) := hK
  clear hK
  go_wp2
  refine HK1.out _ _ ?_
  clear HK1 K1
  refine wp_seq_k (fun K1 hK => ?_)
  have HK1 : Hid (∀ (a : Act) (w : World), _ → K1 a w) := hK
  clear hK
  go_wp2
  refine HK1.out _ _ ?_
  clear HK1 K1
  refine wp_seq_k (fun K1 hK => ?_)
  have HK1 : Hid (∀ (a : Act) (w : World), _ → K1 a w) := hK
  clear hK
  refine wp_seq_k (fun K2 hK => ?_)
  have HK2 : Hid (∀ (a : Act) (w : World), _ → K2 a w) := hK
  clear hK
  by_cases hs : s = x
  · have hb : ((s : Int) == (x : Int)) = true := by rw [hs]; simp
    have EE : Hid (∀ a : Act, a.tmps.getD 35 undef = .int .i64 (d : Int) → a.tmps.getD 35 undef = .int .i64 (en : Int)) := EEQ.out hs
    clear ENE EEQ hs
    go_wp2
    refine HK2.out _ _ (wp_cond_true (by kernel_rfl) ?_)
    clear HK2 K2
    go_wp2
    refine HK1.out _ _ ?_
    exact E14.out _ ⟨⟨⟨⟨⟨by kernel_rfl, by kernel_rfl, by kernel_rfl, by kernel_rfl, by kernel_rfl, by kernel_rfl⟩, by kernel_rfl⟩, by kernel_rfl, by kernel_rfl, by kernel_rfl⟩, by kernel_rfl, by kernel_rfl, by kernel_rfl⟩, by kernel_rfl, by kernel_rfl, by kernel_rfl, by kernel_rfl⟩ (EE.out _ (by kernel_rfl))
  · have hb : ((s : Int) == (x : Int)) = false := by
      have : (s : Int) ≠ (x : Int) := by omega
      simpa using this
    have EE : Hid (∀ a : Act, a.tmps.getD 35 undef = .int .i64 (s : Int) → a.tmps.getD 35 undef = .int .i64 (en : Int)) := ENE.out hs
    clear ENE EEQ hs
    go_wp2
    refine HK2.out _ _ (wp_cond_false (by kernel_rfl) (wp_skip ?_))
    refine HK1.out _ _ ?_
    exact E14.out _ ⟨⟨⟨⟨⟨by kernel_rfl, by kernel_rfl, by kernel_rfl, by kernel_rfl, by kernel_rfl, by kernel_rfl⟩, by kernel_rfl⟩, by kernel_rfl, by kernel_rfl, by kernel_rfl⟩, by kernel_rfl, by kernel_rfl, by kernel_rfl⟩, by kernel_rfl, by kernel_rfl, by kernel_rfl, by kernel_rfl⟩ (EE.out _ (by kernel_rfl))
end Go.Proofs.Qxb6602148a
