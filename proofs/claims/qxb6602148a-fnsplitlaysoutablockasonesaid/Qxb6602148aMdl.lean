/-
  'zzBuildModel': a new part.
-/
import Derived.Test.Qxb6602148aMdk
attribute [local go_sem] Go.Proofs.Qxb6602148a.yTo Go.Proofs.Qxb6602148a.yUpon
namespace Go.Proofs.Qxb6602148a
open Go.RowKit
set_option linter.unusedVariables false
set_option linter.unusedSimpArgs false

set_option maxRecDepth 40000 in
set_option maxHeartbeats 4000000 in
/-- Regions 100, 101 and 102. -/
theorem md_14b (w0 : World) (G : GR) (a0 : Option Addr) (k0 ga gm g0 g1 g2 g3 : Nat) (R : Nat → Nat → Bool) (g8 g9 g10 : Nat) (v20 : Value) (rd x : Nat) (v31 : Value) (i j f r : Nat) (par st wh : Nat → Nat) (B nc : Nat) (cn : Nat → Nat) (cl : Nat → Nat → Nat) (nr : Nat) (rn : Nat → Nat) (rl : Nat → Nat → Nat) (D : Fam) (wr : World)
    (hS : XR w0 G ga gm g0 g1 g2 g3 R g8 g9 g10 par st wh v20 B nc cn cl v31 nr rn rl D wr) (hr : r < G.n) (hnc : nr ≤ 4096)
    (a : Act) (hf : FXr a0 G.n k0 ga gm G.E g8 g9 g10 v20 rd x v31 i j f a) (h36 : a.tmps.getD 36 undef = .int .i64 (r : Int)) (Q : Exit → Act → World → Prop)
    (hC : ∀ (a : Act) (w : World) (D' : Fam) (v31 : Value), FXr a0 G.n k0 ga gm G.E g8 g9 g10 v20 rd x v31 i j f a → a.tmps.getD 36 undef = .int .i64 (r : Int) → XR w0 G ga gm g0 g1 g2 g3 R g8 g9 g10 par (up st r rd) (up wh r nr) v20 B nc cn cl v31 (nr + 1) (up rn nr 0) rl D' w → Q .normal a w) :
    Code.wp Try.prog (cT (tl 1 (sL (tl 4 (f10r (Try.f10.body.getD .skip)))))) Q a wr := by
  obtain ⟨i26, hi26, hz260, hz261, hz262⟩ := info_parts Try.info26
  have x1 := hS.xa.xb.i9.cell' hS.xa.xb.ds.rep hS.xa.xb.b9 rfl hr
  have f1 := hS.xa.xb.ds.rep.frozen hS.xa.xb.b9 r
  have hS1 := hS.stamp r rd
  have x2 := hS1.xa.xb.i10.cell' hS1.xa.xb.ds.rep hS1.xa.xb.b10 rfl hr
  have f2 := hS1.xa.xb.ds.rep.frozen hS1.xa.xb.b10 r
  have hS2 := hS1.where_ r nr
  have hv : D.val 11 = .slice ((D.b 11).map fun g => ⟨g, 0, none⟩) nr (D.cap 11) := by unfold Fam.val; rw [hS.l11.n]
  have v11 := hS.v11
  rw [hv] at v11
  subst v11
  obtain ⟨y, rfl⟩ := litq hf.fv.fx.fe.fm.sz hf.fv.fx.fe.fm.df hf.fv.fx.fe.fm.s0 hf.fv.fx.fe.fm.s2 hf.fv.fx.fe.fm.s3 hf.fv.fx.fe.fm.s4 hf.fv.fx.fe.s5 hf.fv.s20 hf.fv.fx.s25 hf.fv.fx.s26 hf.fv.fx.s27 hf.fv.s28 hf.fv.s29 hf.s31 hf.s32 hf.s33 hf.s34 h36
  generalize hD2 : (D.set 9 r (.int .i64 (rd : Int))).set 10 r (.int .i64 (nr : Int)) = D2 at *
  have hv2 : (D2.put (16 + (B + nc) + nr) none 0 0 (D2.F 16)).val 11 = .slice ((D.b 11).map fun g => ⟨g, 0, none⟩) nr (D.cap 11) := by rw [put_val (by omega), ← hD2, set_val, set_val]; exact hv
  have HN : Hid ((D2.put (16 + (B + nc) + nr) none 0 0 (D2.F 16)).n 11 = nr) := (put_n (by omega)).trans hS2.l11.n
  have HV : Hid ((D2.put (16 + (B + nc) + nr) none 0 0 (D2.F 16)).val 11 = .slice ((D.b 11).map fun g => ⟨g, 0, none⟩) nr (D.cap 11)) := hv2
  have HS2 : Hid (XR w0 G ga gm g0 g1 g2 g3 R g8 g9 g10 par (up st r rd) (up wh r nr) v20 B nc cn cl (.slice ((D.b 11).map fun g => ⟨g, 0, none⟩) nr (D.cap 11)) nr rn rl D2 ((wr.setCell ⟨g9, r, none⟩ (.int .i64 (rd : Int))).setCell ⟨g10, r, none⟩ (.int .i64 (nr : Int)))) := hS2
  have HC : Hid (∀ (a : Act) (w : World) (D' : Fam) (v31 : Value), FXr a0 G.n k0 ga gm G.E g8 g9 g10 v20 rd x v31 i j f a → a.tmps.getD 36 undef = .int .i64 (r : Int) → XR w0 G ga gm g0 g1 g2 g3 R g8 g9 g10 par (up st r rd) (up wh r nr) v20 B nc cn cl v31 (nr + 1) (up rn nr 0) rl D' w → Q .normal a w) := hC
  clear hf h36 hC hS hv hv2 hS2 hS1 hD2
  have hrr : (r : Int) < (G.n : Int) := by omega
  generalize (D.b 11).map (fun g => (⟨g, 0, none⟩ : Addr)) = o7 at *
  generalize D.cap 11 = kk at *
  generalize st r = c0 at *
  generalize wh r = c1 at *
  show Code.wp Try.prog (Code.seq _ (Code.seq _ _)) Q _ wr
  refine wp_seq_k (fun K1 hK => ?_)
  have HK1 : Hid (∀ (a : Act) (w : World), _ → K1 a w) := hK
  clear hK
  go_wp2
  refine HK1.out _ _ ?_
  clear HK1 K1 x1 f1
  generalize wr.setCell ⟨g9, r, none⟩ (.int .i64 (rd : Int)) = wa at *
  refine wp_seq_k (fun K1 hK => ?_)
  have HK1 : Hid (∀ (a : Act) (w : World), _ → K1 a w) := hK
  clear hK
  go_wp2
  refine HK1.out _ _ ?_
  clear HK1 K1 x2 f2
  generalize wa.setCell ⟨g10, r, none⟩ (.int .i64 (nr : Int)) = w1 at *
  go_wp2_with (at_builtin; refine wpList_append_row rfl (HS2.out.rep0.alloc _) 11 nr HN.out (.tmp 403) (.tmp 404) 22 rfl 26 i26 (.slice none 0 0) 1 24 rfl Try.underlying22 hi26 hz260 hz261 hz262 rfl (by decide) (Eq.trans rfl HV.out.symm) ⟨w1.heap.size, 0, none⟩ 1 [.slice none 0 0] rfl rfl (news1 _ _ _) (by simp [Value.oneCell']) (by omega) (by decide) ?_; intro gn kn w2 hR2 hG2; have FF := HS2.out.new hR2 hG2; have HFF : Hid (∃ D', XR w0 G ga gm g0 g1 g2 g3 R g8 g9 g10 par (up st r rd) (up wh r nr) v20 B nc cn cl (.slice (some ⟨gn, 0, none⟩) (nr + 1) kn) (nr + 1) (up rn nr 0) rl D' w2) := FF; clear hR2 hG2 FF)
  obtain ⟨D', hF⟩ := HFF.out
  exact HC.out _ _ D' _ ⟨⟨⟨⟨⟨by kernel_rfl, by kernel_rfl, by kernel_rfl, by kernel_rfl, by kernel_rfl, by kernel_rfl⟩, by kernel_rfl⟩, by kernel_rfl, by kernel_rfl, by kernel_rfl⟩, by kernel_rfl, by kernel_rfl, by kernel_rfl⟩, by kernel_rfl, by kernel_rfl, by kernel_rfl, by kernel_rfl⟩ (by kernel_rfl) hF
end Go.Proofs.Qxb6602148a
