/-
  The second law: 'divide' and what is read behind it; the law whole.
-/
import Derived.Test.Qxb6602148aLg
attribute [local go_sem] Go.Proofs.Qxb6602148a.yTo Go.Proofs.Qxb6602148a.yUpon
namespace Go.Proofs.Qxb6602148a
open Go.RowKit
set_option linter.unusedVariables false
set_option linter.unusedSimpArgs false

/-- Behind 'divide'. -/
structure S15 (w w9 : World) (G : GR) (p : Nat) (M' : Fam) (P P2 : PS) (V : Fam) (gB c : Nat) (R : Nat → Nat → Bool) (nc : Nat) (cls : Nat → Nat) (g0 g1 g2 g3 gM : Nat) : Prop where
  ok : G.Ok
  pin : PIn w9 M' P2 p
  rv : Rep KV w9 V
  vm : VM V P
  box : w9.heap[gB]? = some (.cells #[V.val 0, V.val 1, V.val 2, V.val 3, V.val 4, V.val 5, V.val 6] 35)
  gr : Grew Fam.nil w M' w9
  meet : Meet (G.md R nc cls) P
  meet2 : Meet (G.md R nc cls) P2
  dvp : DvP G.E P P2 c (P.cs 0)
  c1 : c < P.nC
  sm : P.nS ≤ 200000 ∧ P.nC ≤ 200000 ∧ P2.nS ≤ 200000 ∧ P2.nC ≤ 200000
  mcl : MCl G R nc cls g0 g1 g2 g3 w9
  bm : w9.heap[gM]? = some (.cells #[.int .i64 (G.n : Int), .slice (some ⟨g0, 0, none⟩) G.E G.E, .slice (some ⟨g1, 0, none⟩) G.E G.E, .slice (some ⟨g2, 0, none⟩) G.E G.E, .slice (some ⟨g3, 0, none⟩) G.E G.E, .int .i64 (nc : Int)] 29)
theorem S13.div {w w8 : World} {G : GR} {p : Nat} {M : Fam} {P : PS} {V : Fam} {gB c : Nat} {R : Nat → Nat → Bool} {nc : Nat} {cls : Nat → Nat} {g0 g1 g2 g3 gM : Nat} (h : S13 w w8 G p M P V gB c R nc cls g0 g1 g2 g3 gM) :
    Calls Try.prog 16 #[.pointer (some ⟨p, 0, none⟩), .int .i64 (c : Int)] w8 fun e w9 => e = .returned (.tuple #[]) ∧ ∃ M' P2, S15 w w9 G p M' P P2 V gB c R nc cls g0 g1 g2 g3 gM := by
  have hgo := h.meet.bgo h.ok h.mcl.ok h.calm h.c1 h.c2
  refine zzDivide_calls w8 p c (fun w9 => ∃ M' P2, S15 w w9 G p M' P P2 V gB c R nc cls g0 g1 g2 g3 gM) ((divide_calls w8 M P p c (P.mn c) (P.sl c) h.pin.rep h.pin.pm h.pin.b11 hgo).mono ?_)
  rintro e w9 ⟨rfl, M', P2, r, pm, gr, lo, en⟩
  refine ⟨rfl, M', P2, ?_⟩
  obtain ⟨L, hf, hm2, nb, hb⟩ := h.meet.bdiv h.ok h.mcl.ok h.calm h.c1 h.c2 (PF := P2) ⟨_, rfl, rfl, rfl, rfl, en⟩
  have nS := h.nS
  have nC := h.nC
  have tE := hf.tE
  have nE := h.meet.nE
  have hE := h.ok.E
  have nE' : P.nE = G.E := nE
  have nS2 : P2.nS ≤ 100000 := by rw [hf.nS]; omega
  have nC2 : P2.nC ≤ 100000 := by rw [hf.nC]; omega
  have blk : ∀ (g : Nat) (o : Obj), w8.heap[g]? = some o → (∀ j, M.b j ≠ some g) → w9.heap[g]? = some o := fun g o ho hn => by
    rw [gr.block g (Array.getElem?_eq_some_iff.1 ho).1 hn]; exact ho
  refine ⟨h.ok, ⟨r, pm, lo.p.trans h.pin.b11, ⟨by rw [hf.nE]; omega, by omega, by omega⟩, fun s hs => ?_, fun c' hc' => ?_⟩, h.rv.kept (fun i g hb' => gr.block g (h.rv.lt hb') (h.vn i g hb')), h.vm, blk _ _ h.box h.bn, h.gr.trans gr, h.meet, hm2, h.meet.dvp h.ok h.mcl.ok h.calm h.c1 h.c2 hf nb hb, h.c1, ⟨by omega, by omega, by omega, by omega⟩, h.mcl.kept (fun g hg j v hv => gr.cellM (fun i => ?_) hv), blk _ _ h.bm (fun j => (h.mn j).2.2.2.2)⟩
  · have := hm2.on_le hs
    have e1 : (G.md R nc cls).E = G.E := rfl
    omega
  · have := hm2.mn_le hc'
    omega
  · obtain ⟨m0, m1, m2, m3, _⟩ := h.mn i
    rcases hg with rfl | rfl | rfl | rfl
    · exact m0
    · exact m1
    · exact m2
    · exact m3

set_option maxRecDepth 40000 in
set_option maxHeartbeats 8000000 in
/-- Regions 15 to 19. -/
theorem l2_g3 (w w8 : World) (G : GR) (p : Nat) (M : Fam) (P : PS) (V : Fam) (gB c : Nat) (R : Nat → Nat → Bool) (nc : Nat) (cls : Nat → Nat) (g0 g1 g2 g3 gM : Nat) (hS : S13 w w8 G p M P V gB c R nc cls g0 g1 g2 g3 gM) (a : Act) (hf : F4c p gB gM c a) :
    Code.wp Try.prog (tl 10 (Try.f4.body.getD .skip)) (bodyPost Try.prog Try.f4 fun e w' => e = .returned (.bool true) ∧ Below w.heap.size w w') a w8 := by
  obtain ⟨y, rfl⟩ := l4s7 hf.sz hf.df hf.s1 hf.s5 hf.s6 hf.s7
  have HD : Hid (Calls Try.prog 16 #[.pointer (some ⟨p, 0, none⟩), .int .i64 (c : Int)] w8 fun e w9 => e = .returned (.tuple #[]) ∧ ∃ M' P2, S15 w w9 G p M' P P2 V gB c R nc cls g0 g1 g2 g3 gM) := hS.div
  have hnil := fun (a : Option Addr) (n c : Nat) (w : World) => Lib.run_eql_slice_nil (P := Try.prog) w 26 3 a n c 0 0 Try.underlying26
  clear hf hS
  show Code.wp Try.prog (Code.seq _ (Code.seq _ (Code.seq (Code.seq _ (Code.cond (.tmp 48) _ Code.skip)) (Code.seq (Code.seq _ (Code.cond (.tmp 63) _ Code.skip)) (tl 14 (Try.f4.body.getD .skip)))))) _ _ w8
  refine wp_seq_k (fun K1 hK => ?_)
  have HK1 : Hid (∀ (a : Act) (w : World), _ → K1 a w) := hK
  clear hK
  go_wp2_with (go_at_call 16; refine HD.out.mono ?_; rintro e w9 ⟨rfl, M', P2, h9⟩; have H9 : Hid (S15 w w9 G p M' P P2 V gB c R nc cls g0 g1 g2 g3 gM) := h9; clear h9)
  refine HK1.out _ _ ?_
  clear HK1 K1 HD
  have HT : Hid (Calls Try.prog 13 #[.pointer (some ⟨p, 0, none⟩)] w9 fun e w' => ∃ V a0 n0 k0 a1 n1 k1 a2 n2 k2 a3 n3 k3 a4 n4 k4 a5 n5 k5 a6 n6 k6, e = .returned (.agg #[.slice a0 n0 k0, .slice a1 n1 k1, .slice a2 n2 k2, .slice a3 n3 k3, .slice a4 n4 k4, .slice a5 n5 k5, .slice a6 n6 k6]) ∧ (#[.slice a0 n0 k0, .slice a1 n1 k1, .slice a2 n2 k2, .slice a3 n3 k3, .slice a4 n4 k4, .slice a5 n5 k5, .slice a6 n6 k6] : Array Value) = #[V.val 0, V.val 1, V.val 2, V.val 3, V.val 4, V.val 5, V.val 6] ∧ VOut w9 P2 V w') := take_slices (take_calls w9 M' P2 p H9.out.pin)
  refine wp_seq_k (fun K1 hK => ?_)
  have HK1 : Hid (∀ (a : Act) (w : World), _ → K1 a w) := hK
  clear hK
  go_wp2_with (go_at_call 13; refine HT.out.mono ?_; rintro e w10 ⟨V2, a0, n0, k0, a1, n1, k1, a2, n2, k2, a3, n3, k3, a4, n4, k4, a5, n5, k5, a6, n6, k6, rfl, hq, hV⟩; have HV : Hid (VOut w9 P2 V2 w10) := hV; have HQ : Hid ((#[.slice a0 n0 k0, .slice a1 n1 k1, .slice a2 n2 k2, .slice a3 n3 k3, .slice a4 n4 k4, .slice a5 n5 k5, .slice a6 n6 k6] : Array Value) = #[V2.val 0, V2.val 1, V2.val 2, V2.val 3, V2.val 4, V2.val 5, V2.val 6]) := hq; clear hV hq)
  refine HK1.out _ _ ?_
  clear HK1 K1 HT
  rw [HQ.out]
  have b11 : (w10.alloc (.cells #[V2.val 0, V2.val 1, V2.val 2, V2.val 3, V2.val 4, V2.val 5, V2.val 6] 35)).heap[w10.heap.size]? = some (.cells #[V2.val 0, V2.val 1, V2.val 2, V2.val 3, V2.val 4, V2.val 5, V2.val 6] 35) := heap_alloc_new w10 _
  have gx : Grew Fam.nil w10 Fam.nil (w10.alloc (.cells #[V2.val 0, V2.val 1, V2.val 2, V2.val 3, V2.val 4, V2.val 5, V2.val 6] 35)) := (Grew.refl Fam.nil w10).alloc _
  generalize w10.heap.size = gA at *
  generalize w10.alloc (.cells #[V2.val 0, V2.val 1, V2.val 2, V2.val 3, V2.val 4, V2.val 5, V2.val 6] 35) = w11 at *
  obtain ⟨rv2, vm2⟩ := HV.out.kept gx
  have g911 : Grew Fam.nil w9 Fam.nil w11 := HV.out.2.1.to_nil.trans gx
  have rv11 : Rep KV w11 V := H9.out.rv.kept (fun i g hb => g911.block g (H9.out.rv.lt hb) (fun i e => by cases e))
  have bx11 := box_kept H9.out.box g911
  have bm11 := box_kept H9.out.bm g911
  have mc11 := H9.out.mcl.kept (w2 := w11) (fun g _ j v hv => g911.cell hv)
  have c0 : w11.cell? ⟨gM, 0, none⟩ = some (.int .i64 (G.n : Int)) := by rw [cell_of_row w11 gM 0 _ _ _ bm11]; rfl
  have c1 : w11.cell? ⟨gM, 1, none⟩ = some (.slice (some ⟨g0, 0, none⟩) G.E G.E) := by rw [cell_of_row w11 gM 1 _ _ _ bm11]; rfl
  have c2 : w11.cell? ⟨gM, 2, none⟩ = some (.slice (some ⟨g1, 0, none⟩) G.E G.E) := by rw [cell_of_row w11 gM 2 _ _ _ bm11]; rfl
  have c3 : w11.cell? ⟨gM, 3, none⟩ = some (.slice (some ⟨g2, 0, none⟩) G.E G.E) := by rw [cell_of_row w11 gM 3 _ _ _ bm11]; rfl
  have c4 : w11.cell? ⟨gM, 4, none⟩ = some (.slice (some ⟨g3, 0, none⟩) G.E G.E) := by rw [cell_of_row w11 gM 4 _ _ _ bm11]; rfl
  have c5 : w11.cell? ⟨gM, 5, none⟩ = some (.int .i64 (nc : Int)) := by rw [cell_of_row w11 gM 5 _ _ _ bm11]; rfl
  have d0 : w11.cell? ⟨gA, 0, none⟩ = some (V2.val 0) := by rw [cell_of_row w11 gA 0 _ _ _ b11]; rfl
  have d1 : w11.cell? ⟨gA, 1, none⟩ = some (V2.val 1) := by rw [cell_of_row w11 gA 1 _ _ _ b11]; rfl
  have d2 : w11.cell? ⟨gA, 2, none⟩ = some (V2.val 2) := by rw [cell_of_row w11 gA 2 _ _ _ b11]; rfl
  have d3 : w11.cell? ⟨gA, 3, none⟩ = some (V2.val 3) := by rw [cell_of_row w11 gA 3 _ _ _ b11]; rfl
  have d4 : w11.cell? ⟨gA, 4, none⟩ = some (V2.val 4) := by rw [cell_of_row w11 gA 4 _ _ _ b11]; rfl
  have d5 : w11.cell? ⟨gA, 5, none⟩ = some (V2.val 5) := by rw [cell_of_row w11 gA 5 _ _ _ b11]; rfl
  have d6 : w11.cell? ⟨gA, 6, none⟩ = some (V2.val 6) := by rw [cell_of_row w11 gA 6 _ _ _ b11]; rfl
  obtain ⟨sm1, sm2, sm3, sm4⟩ := H9.out.sm
  have HMT : Hid (Calls Try.prog 12 #[.agg #[.int .i64 (G.n : Int), .slice (some ⟨g0, 0, none⟩) G.E G.E, .slice (some ⟨g1, 0, none⟩) G.E G.E, .slice (some ⟨g2, 0, none⟩) G.E G.E, .slice (some ⟨g3, 0, none⟩) G.E G.E, .int .i64 (nc : Int)], .agg #[V2.val 0, V2.val 1, V2.val 2, V2.val 3, V2.val 4, V2.val 5, V2.val 6]] w11 fun e w' => e = .returned (.bool true) ∧ Grew Fam.nil w11 Fam.nil w') := by
    refine (meets_calls w11 (G.md R nc cls) P2 (.slice (some ⟨g0, 0, none⟩) G.E G.E) (.slice (some ⟨g1, 0, none⟩) G.E G.E) (.slice (some ⟨g2, 0, none⟩) G.E G.E) (.slice (some ⟨g3, 0, none⟩) G.E G.E) (V2.val 0) (V2.val 1) (V2.val 2) (V2.val 3) (V2.val 4) (V2.val 5) (V2.val 6) (mtIn_of H9.out.ok mc11 rv2 vm2 sm3 sm4) H9.out.meet2).mono ?_
    rintro e w12 ⟨rfl, D, hD⟩
    exact ⟨rfl, (((Grew.refl Fam.nil w11).alloc _).alloc _).trans hD.to_nil⟩
  have FIN : Hid (∀ w12, Grew Fam.nil w11 Fam.nil w12 → L2In w12 gB gM gA G.E P P2 c (P.cs 0) ∧ w12.heap[gB]? = some (.cells #[V.val 0, V.val 1, V.val 2, V.val 3, V.val 4, V.val 5, V.val 6] 35) ∧ Rep KV w12 V ∧ VM V P ∧ (∀ w', Grew Fam.nil w12 Fam.nil w' → Below w.heap.size w w') ∧ P2.mn c = 0) := by
    intro w12 hg
    have rv12 : Rep KV w12 V := rv11.kept (fun i g hb => hg.block g (rv11.lt hb) (fun i e => by cases e))
    have rv22 : Rep KV w12 V2 := rv2.kept (fun i g hb => hg.block g (rv2.lt hb) (fun i e => by cases e))
    have bx12 := box_kept bx11 hg
    have d := H9.out.dvp
    have nE1 : P.nE = G.E := H9.out.meet.nE
    have nE2 : P2.nE = G.E := H9.out.meet2.nE
    refine ⟨⟨vin_of bx12 rv12 H9.out.vm, vin_of (box_kept b11 hg) rv22 vm2, ⟨fun e => ((G.sr e : Nat) : Int), some ⟨g0, 0, none⟩, G.E, ?_, fun e he => ⟨g0, rfl, Nat.le_refl _, hg.cell (mc11.c0 e he)⟩⟩, nE1, nE2, ⟨H9.out.ok.E, sm1, sm2, sm3, sm4⟩, d.ec, d.ex, d.Dc, fun hU => hU.2.2 (d.Du hU.2.1), ⟨H9.out.c1, d.D2⟩, d.mem, d.nCC, fun k hk => ?_⟩, bx12, rv12, H9.out.vm, fun w' hg' => ?_, d.cn⟩
    · rw [cell_of_row w12 gM 1 _ _ _ (box_kept bm11 hg)]; rfl
    · have := H9.out.meet.mn_le hk; omega
    · exact ((H9.out.gr.keep g911).keep (hg.trans hg')).below
  have hcn := (FIN.out w11 (Grew.refl _ _)).2.2.2.2.2
  clear HQ HV b11 gx rv2 vm2 g911 rv11 bx11 bm11 mc11
  refine wp_seq_k (fun K1 hK => ?_)
  have HK1 : Hid (∀ (a : Act) (w : World), _ → K1 a w) := hK
  clear hK
  refine wp_seq_k (fun K2 hK => ?_)
  have HK2 : Hid (∀ (a : Act) (w : World), _ → K2 a w) := hK
  clear hK
  go_wp2_with (go_at_call 12; refine HMT.out.mono ?_; rintro e w12 ⟨rfl, hg⟩; have HG12 : Hid (Grew Fam.nil w11 Fam.nil w12) := hg; clear hg)
  refine HK2.out _ _ (wp_cond_false (by kernel_rfl) (wp_skip ?_))
  refine HK1.out _ _ ?_
  clear HK1 K1 HK2 K2 HMT c0 c1 c2 c3 c4 c5 d0 d1 d2 d3 d4 d5 d6
  obtain ⟨hin, hbx, hrv, hvm, hbel, _⟩ := FIN.out w12 HG12.out
  have HIN : Hid (L2In w12 gB gM gA G.E P P2 c (P.cs 0)) := hin
  have HE : Hid (w12.heap[gB]? = some (.cells #[V.val 0, V.val 1, V.val 2, V.val 3, V.val 4, V.val 5, V.val 6] 35) ∧ Rep KV w12 V ∧ VM V P ∧ ∀ w', Grew Fam.nil w12 Fam.nil w' → Below w.heap.size w w') := ⟨hbx, hrv, hvm, hbel⟩
  have hcc := hin.cc.1
  have hnCC := hin.nCC
  have hc2 : c < P2.nC := by omega
  obtain ⟨b5, k5, l5, x1, x2, x3⟩ := hin.va.v5.nil hin.va.n5 (Grew.refl Fam.nil w12) hc2 hcn
  obtain ⟨o6, k6, x4⟩ := hin.vb.v5.len (Grew.refl Fam.nil w12)
  have dl : decide ((P2.nC : Int) < (P.nC : Int)) = false := decide_eq_false (by omega)
  have dl2 : decide (P2.nC < P.nC) = false := decide_eq_false (by omega)
  have hci : (c : Int) < (P2.nC : Int) := by omega
  clear hin hbx hrv hvm hbel FIN HG12 H9
  refine wp_seq_k (fun K1 hK => ?_)
  have HK1 : Hid (∀ (a : Act) (w : World), _ → K1 a w) := hK
  clear hK
  refine wp_seq_k (fun K2 hK => ?_)
  have HK2 : Hid (∀ (a : Act) (w : World), _ → K2 a w) := hK
  clear hK
  go_wp2
  refine HK2.out _ _ (wp_cond_false (by kernel_rfl) (wp_skip ?_))
  refine HK1.out _ _ ?_
  exact l2_end w12 gB gM gA G.E P P2 c (P.cs 0) V HIN.out HE.out.1 HE.out.2.1 HE.out.2.2.1 _ ⟨by kernel_rfl, by kernel_rfl, by kernel_rfl, by kernel_rfl, by kernel_rfl, by kernel_rfl⟩ _ HE.out.2.2.2

set_option maxRecDepth 40000 in
set_option maxHeartbeats 4000000 in
theorem law2_calls (w : World) (a : Option Addr) (n k : Nat) (A : Nat → Option Addr) (d C : Nat → Nat) (z : Nat → Nat → Int) (ci : Int) (hci : ci ≤ 9223372036854775807 ∧ -9223372036854775808 ≤ ci) (h : RG w a n A d C z) (hk : a = none → n = 0 ∧ k = 0) :
    Calls Try.prog 4 #[.slice a n k, .int .i64 ci] w fun e w' => e = .returned (.bool true) ∧ Below w.heap.size w w' := by
  have HRG : Hid (RG w a n A d C z) := h
  have HNK : Hid (a = none → n = 0 ∧ k = 0) := hk
  have HCI : Hid (ci ≤ 9223372036854775807 ∧ -9223372036854775808 ≤ ci) := hci
  have H6 : Hid (Calls Try.prog 14 #[.slice a n k, .int .i64 ci] w (RetB w)) := bytes14_calls w a n k A d C z ci h
  have H7 : Hid (Calls Try.prog 7 #[.slice a n k, .int .i64 0] w (RetF w n d)) := bytesFit_calls w a n k 0 A d C z h
  clear h hk hci
  refine calls_of_wp (c := (Try.f4.body.getD .skip)) Try.func4 rfl ?_
  have hfr : ({ tmps := #[.slice a n k, .int .i64 ci] ++ Array.replicate (Try.f4.ntmps - (#[.slice a n k, .int .i64 ci] : Array Value).size) undef, defers := [] } : Act) = { tmps := #[.slice a n k, .int .i64 ci, undef, undef, undef, undef, undef, undef, undef, undef, undef, undef, undef, undef, undef, undef, undef, undef, undef, undef, undef, undef, undef, undef, undef, undef, undef, undef, undef, undef, undef, undef, undef, undef, undef, undef, undef, undef, undef, undef, undef, undef, undef, undef, undef, undef, undef, undef, undef, undef, undef, undef, undef, undef, undef, undef, undef, undef, undef, undef, undef, undef, undef, undef, undef, undef, undef, undef, undef, undef, undef, undef, undef, undef, undef, undef, undef, undef, undef, undef, undef, undef, undef, undef, undef, undef, undef, undef, undef, undef, undef, undef, undef, undef, undef, undef, undef, undef, undef, undef, undef, undef, undef, undef, undef, undef, undef, undef, undef, undef, undef, undef, undef, undef, undef, undef, undef, undef, undef, undef, undef, undef, undef, undef, undef, undef, undef, undef, undef, undef, undef, undef, undef, undef, undef, undef, undef, undef, undef, undef, undef, undef, undef, undef, undef, undef, undef, undef, undef, undef, undef, undef, undef, undef, undef, undef, undef, undef, undef, undef, undef, undef, undef, undef, undef, undef, undef, undef, undef, undef, undef, undef, undef, undef, undef, undef, undef, undef, undef, undef], defers := [] } := by kernel_rfl
  rw [hfr]
  clear hfr
  show Code.wp Try.prog (Code.seq _ (Code.seq (Code.seq _ (Code.cond (.tmp 17) _ Code.skip)) (Code.seq (Code.seq _ (Code.cond (.tmp 20) _ Code.skip)) (Code.seq (Code.seq _ (Code.cond (.tmp 23) _ Code.skip)) (Code.seq _ (tl 5 (Try.f4.body.getD .skip))))))) _ _ w
  refine wp_seq_k (fun K1 hK => ?_)
  have HK1 : Hid (∀ (a : Act) (w : World), _ → K1 a w) := hK
  clear hK
  go_wp2
  refine HK1.out _ _ ?_
  clear HK1 K1
  refine wp_seq_k (fun K1 hK => ?_)
  have HK1 : Hid (∀ (a : Act) (w : World), _ → K1 a w) := hK
  clear hK
  refine wp_seq_k (fun K2 hK => ?_)
  have HK2 : Hid (∀ (a : Act) (w : World), _ → K2 a w) := hK
  clear hK
  go_wp2_with (go_at_call 14; refine H6.out.mono ?_; rintro e w2 ⟨⟨b, rfl⟩, hw2⟩; have HW2 : Hid (w2 = w) := hw2; clear hw2)
  obtain rfl := HW2.out
  clear HW2 H6
  cases b with
  | false =>
    refine HK2.out _ _ (wp_cond_true (by kernel_rfl) ?_)
    clear HK1 HK2 K2
    go_wp2
    go_ret
    exact ⟨rfl, Below.refl _ _⟩
  | true =>
  refine HK2.out _ _ (wp_cond_false (by kernel_rfl) (wp_skip ?_))
  refine HK1.out _ _ ?_
  clear HK1 K1 HK2 K2
  refine wp_seq_k (fun K1 hK => ?_)
  have HK1 : Hid (∀ (a : Act) (w : World), _ → K1 a w) := hK
  clear hK
  refine wp_seq_k (fun K2 hK => ?_)
  have HK2 : Hid (∀ (a : Act) (w : World), _ → K2 a w) := hK
  clear hK
  go_wp2_with (go_at_call 7; refine H7.out.mono ?_; rintro e w3 ⟨⟨b, rfl, hb⟩, hw3⟩; have HW3 : Hid (w3 = w2) := hw3; have HB : Hid (b = true → ∀ r, r < n → d r ≤ 131072) := hb; clear hw3 hb)
  obtain rfl := HW3.out
  clear HW3 H7
  cases b with
  | false =>
    refine HK2.out _ _ (wp_cond_true (by kernel_rfl) ?_)
    clear HK1 HK2 K2
    go_wp2
    go_ret
    exact ⟨rfl, Below.refl _ _⟩
  | true =>
  have HB2 : Hid (∀ r, r < n → d r ≤ 131072) := HB.out rfl
  clear HB
  have H8 : Hid (Calls Try.prog 8 #[.slice a n k] w3 (RetG w3 n d z)) := graphFits_calls w3 a n k A d C z HRG.out HB2.out
  refine HK2.out _ _ (wp_cond_false (by kernel_rfl) (wp_skip ?_))
  refine HK1.out _ _ ?_
  clear HK1 K1 HK2 K2
  refine wp_seq_k (fun K1 hK => ?_)
  have HK1 : Hid (∀ (a : Act) (w : World), _ → K1 a w) := hK
  clear hK
  refine wp_seq_k (fun K2 hK => ?_)
  have HK2 : Hid (∀ (a : Act) (w : World), _ → K2 a w) := hK
  clear hK
  go_wp2_with (go_at_call 8; refine H8.out.mono ?_; rintro e w4 ⟨⟨b, rfl, hb⟩, hw4⟩; have HW4 : Hid (w4 = w3) := hw4; have HG : Hid (b = true → (rgG n d z).Ok ∧ ∀ r c, r < n → c < d r → 0 ≤ z r c) := hb; clear hw4 hb)
  obtain rfl := HW4.out
  clear HW4 H8
  cases b with
  | false =>
    refine HK2.out _ _ (wp_cond_true (by kernel_rfl) ?_)
    clear HK1 HK2 K2
    go_wp2
    go_ret
    exact ⟨rfl, Below.refl _ _⟩
  | true =>
  have HG2 : Hid ((rgG n d z).Ok ∧ ∀ r c, r < n → c < d r → 0 ≤ z r c) := HG.out rfl
  clear HG
  have H9 : Hid (Calls Try.prog 9 #[.slice a n k] w4 (CGOut w4 n d z)) := cloneGraph_calls w4 a n k A d C z HRG.out HNK.out HG2.out.1.n HB2.out HG2.out.2
  refine HK2.out _ _ (wp_cond_false (by kernel_rfl) (wp_skip ?_))
  refine HK1.out _ _ ?_
  clear HK1 K1 HK2 K2
  refine wp_seq_k (fun K1 hK => ?_)
  have HK1 : Hid (∀ (a : Act) (w : World), _ → K1 a w) := hK
  clear hK
  go_wp2_with (go_at_call 9; refine H9.out.mono ?_; rintro e w5 ⟨Nf, a', k', rfl, hGM, hGr⟩; have HGM : Hid (GM w5 Nf (rgG n d z) a' k') := hGM; have HGR : Hid (Grew Fam.nil w4 Nf w5) := hGr; clear hGM hGr)
  refine HK1.out _ _ ?_
  clear HK1 K1 H9
  refine l2_g1 w4 w5 Nf (rgG n d z) a' k' HGM.out HG2.out.1 HGR.out.to_nil ci HCI.out _ (by kernel_rfl) (by kernel_rfl) (by kernel_rfl) (by kernel_rfl) ?_
  intro ac w6 p gB c M P V hf hS
  refine l2_g2 w4 w6 Nf (rgG n d z) a' k' p M P V gB c hS ac hf ?_
  intro ac w8 R nc cls g0 g1 g2 g3 gM hf hS
  exact l2_g3 w4 w8 (rgG n d z) p M P V gB c R nc cls g0 g1 g2 g3 gM hS ac hf
end Go.Proofs.Qxb6602148a
