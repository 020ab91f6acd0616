/-
  'zzBuildModel': the rounds.
-/
import Derived.Test.Qxb6602148aMdq
attribute [local go_sem] Go.Proofs.Qxb6602148a.yTo Go.Proofs.Qxb6602148a.yUpon
namespace Go.Proofs.Qxb6602148a
open Go.RowKit
set_option linter.unusedVariables false
set_option linter.unusedSimpArgs false

theorem LSt.moved {D : Fam} {B nr : Nat} {rn : Nat → Nat} {rl : Nat → Nat → Nat} (h : LSt D 11 B nr rn rl) (f : Nat → Value) : LSt ((D.put 7 (D.b 11) (D.n 11) (D.cap 11) (D.F 11)).put 11 none 0 0 f) 7 B nr rn rl := by
  refine ⟨by rw [put_n (by omega), put_ns]; exact h.n, fun i hi => ?_, fun i hi => ((h.L i hi).put_ne (by omega)).put_ne (by omega)⟩
  rw [put_F (by omega), put_Fs, put_val (by omega), put_val (by omega)]
  exact h.F i hi
/-- 'classes = refined'. -/
theorem RHI.next {w0 w : World} {G : GR} {ga gm g0 g1 g2 g3 : Nat} {R : Nat → Nat → Bool} {g8 g9 g10 : Nat} {v20 v31 : Value} {x B nc rd : Nat} {rt cn : Nat → Nat} {cl : Nat → Nat → Nat} (hc : PT (Sb G R G.E) (Rl G R x) nc cn cl) (h : RHI w0 G ga gm g0 g1 g2 g3 R g8 g9 g10 v20 x rt B nc cn cl nc rd v31 w) : XHI w0 G ga gm g0 g1 g2 g3 R g8 g9 g10 (x + 1) rd v31 w := by
  obtain ⟨par, dp, st, wh, nr, rn, rl, D, h1, h2, h3⟩ := h
  have b := h1.xa.xb
  have hR := b.ds.rep.move (i := 11) (j := 7) (by omega) rfl (D.F 11)
  have hG := b.ds.grew.move (i := 11) (j := 7) (D.F 11)
  have d : DGr w0 G ga gm g0 g1 g2 g3 (fun _ => -1) (G.ocb R) ((D.put 7 (D.b 11) (D.n 11) (D.cap 11) (D.F 11)).put 11 none 0 0 (D.F 11)) w := by
    have e := b.ds
    exact ⟨hR, hG, by rw [put_b (by omega), put_b (by omega)]; exact e.b15, by rw [put_n (by omega), put_n (by omega)]; exact e.n15, fun k hk => by rw [put_F (by omega), put_F (by omega)]; exact e.F15 k hk, by rw [put_b (by omega), put_b (by omega)]; exact e.b14, by rw [put_n (by omega), put_n (by omega)]; exact e.n14, fun k hk => by rw [put_F (by omega), put_F (by omega)]; exact e.F14 k hk, by rw [put_b (by omega), put_b (by omega)]; exact e.b0, by rw [put_b (by omega), put_b (by omega)]; exact e.b1, by rw [put_b (by omega), put_b (by omega)]; exact e.b2, by rw [put_b (by omega), put_b (by omega)]; exact e.b3, (e.i0.put_ne (by omega)).put_ne (by omega), (e.i1.put_ne (by omega)).put_ne (by omega), (e.i2.put_ne (by omega)).put_ne (by omega), (e.i3.put_ne (by omega)).put_ne (by omega)⟩
  refine ⟨par, st, wh, B + nc, nr, rn, rl, _, ⟨⟨d, by rw [put_b (by omega), put_b (by omega)]; exact b.b8, by rw [put_cap (by omega), put_cap (by omega)]; exact b.c8, (b.i8.put_ne (by omega)).put_ne (by omega), by rw [put_b (by omega), put_b (by omega)]; exact b.b9, (b.i9.put_ne (by omega)).put_ne (by omega), by rw [put_b (by omega), put_b (by omega)]; exact b.b10, (b.i10.put_ne (by omega)).put_ne (by omega)⟩, ?_, h1.l11.moved _⟩, h3.done hc, h3.2⟩
  rw [put_val (by omega), put_vals, ← h1.v11]; rfl
/-- 'refined' is empty. -/
theorem UXI.begin {w0 w : World} {G : GR} {ga gm g0 g1 g2 g3 : Nat} {R : Nat → Nat → Bool} {g8 g9 g10 : Nat} {v20 : Value} {x B nc rd : Nat} {st wh cn : Nat → Nat} {cl : Nat → Nat → Nat} (h : UXI w0 G ga gm g0 g1 g2 g3 R g8 g9 g10 v20 x st wh B nc cn cl G.E w) (hs : ∀ v, v < G.n → st v ≤ rd) : ∃ rt, RtI G R x G.E rt ∧ RHI w0 G ga gm g0 g1 g2 g3 R g8 g9 g10 v20 x rt B nc cn cl 0 rd (.slice none 0 0) w := by
  obtain ⟨par, rt, dp, D, h1, h2, h3⟩ := h
  refine ⟨rt, h3, par, dp, st, wh, 0, _, _, D.put 11 none 0 0 (D.F 11), ⟨h1.putA ⟨by omega, by omega, by omega⟩ (by omega) (by omega) (h1.xb.ds.rep.drop 11 _) (h1.xb.ds.grew.put (.inr rfl)), put_vals, LSt.nil put_ns _ _ _⟩, h2, RH.begin hs⟩
def LxI (w0 : World) (G : GR) (a0 : Option Addr) (k0 ga gm g0 g1 g2 g3 : Nat) (R : Nat → Nat → Bool) (g8 g9 g10 : Nat) (a : Act) (w : World) : Prop :=
  ∃ (x rd : Nat) (v20 : Value), FXv a0 G.n k0 ga gm G.E g8 g9 g10 v20 rd x a ∧ x ≤ G.n ∧ rd ≤ x * 4096 ∧ XHI w0 G ga gm g0 g1 g2 g3 R g8 g9 g10 x rd v20 w
set_option maxRecDepth 40000 in
theorem lity {a : Act} {u0 u2 u3 u4 u5 u20 u25 u26 u27 u28 : Value} (hs : a.tmps.size = 451) (hd : a.defers = []) (h0 : a.tmps.getD 0 undef = u0) (h2 : a.tmps.getD 2 undef = u2) (h3 : a.tmps.getD 3 undef = u3) (h4 : a.tmps.getD 4 undef = u4) (h5 : a.tmps.getD 5 undef = u5) (h20 : a.tmps.getD 20 undef = u20) (h25 : a.tmps.getD 25 undef = u25) (h26 : a.tmps.getD 26 undef = u26) (h27 : a.tmps.getD 27 undef = u27) (h28 : a.tmps.getD 28 undef = u28) : ∃ y : Nat → Value, a = { tmps := #[u0, y 1, u2, u3, u4, u5, y 6, y 7, y 8, y 9, y 10, y 11, y 12, y 13, y 14, y 15, y 16, y 17, y 18, y 19, u20, y 21, y 22, y 23, y 24, u25, u26, u27, u28, y 29, y 30, y 31, y 32, y 33, y 34, y 35, y 36, y 37, y 38, y 39, y 40, y 41, y 42, y 43, y 44, y 45, y 46, y 47, y 48, y 49, y 50, y 51, y 52, y 53, y 54, y 55, y 56, y 57, y 58, y 59, y 60, y 61, y 62, y 63, y 64, y 65, y 66, y 67, y 68, y 69, y 70, y 71, y 72, y 73, y 74, y 75, y 76, y 77, y 78, y 79, y 80, y 81, y 82, y 83, y 84, y 85, y 86, y 87, y 88, y 89, y 90, y 91, y 92, y 93, y 94, y 95, y 96, y 97, y 98, y 99, y 100, y 101, y 102, y 103, y 104, y 105, y 106, y 107, y 108, y 109, y 110, y 111, y 112, y 113, y 114, y 115, y 116, y 117, y 118, y 119, y 120, y 121, y 122, y 123, y 124, y 125, y 126, y 127, y 128, y 129, y 130, y 131, y 132, y 133, y 134, y 135, y 136, y 137, y 138, y 139, y 140, y 141, y 142, y 143, y 144, y 145, y 146, y 147, y 148, y 149, y 150, y 151, y 152, y 153, y 154, y 155, y 156, y 157, y 158, y 159, y 160, y 161, y 162, y 163, y 164, y 165, y 166, y 167, y 168, y 169, y 170, y 171, y 172, y 173, y 174, y 175, y 176, y 177, y 178, y 179, y 180, y 181, y 182, y 183, y 184, y 185, y 186, y 187, y 188, y 189, y 190, y 191, y 192, y 193, y 194, y 195, y 196, y 197, y 198, y 199, y 200, y 201, y 202, y 203, y 204, y 205, y 206, y 207, y 208, y 209, y 210, y 211, y 212, y 213, y 214, y 215, y 216, y 217, y 218, y 219, y 220, y 221, y 222, y 223, y 224, y 225, y 226, y 227, y 228, y 229, y 230, y 231, y 232, y 233, y 234, y 235, y 236, y 237, y 238, y 239, y 240, y 241, y 242, y 243, y 244, y 245, y 246, y 247, y 248, y 249, y 250, y 251, y 252, y 253, y 254, y 255, y 256, y 257, y 258, y 259, y 260, y 261, y 262, y 263, y 264, y 265, y 266, y 267, y 268, y 269, y 270, y 271, y 272, y 273, y 274, y 275, y 276, y 277, y 278, y 279, y 280, y 281, y 282, y 283, y 284, y 285, y 286, y 287, y 288, y 289, y 290, y 291, y 292, y 293, y 294, y 295, y 296, y 297, y 298, y 299, y 300, y 301, y 302, y 303, y 304, y 305, y 306, y 307, y 308, y 309, y 310, y 311, y 312, y 313, y 314, y 315, y 316, y 317, y 318, y 319, y 320, y 321, y 322, y 323, y 324, y 325, y 326, y 327, y 328, y 329, y 330, y 331, y 332, y 333, y 334, y 335, y 336, y 337, y 338, y 339, y 340, y 341, y 342, y 343, y 344, y 345, y 346, y 347, y 348, y 349, y 350, y 351, y 352, y 353, y 354, y 355, y 356, y 357, y 358, y 359, y 360, y 361, y 362, y 363, y 364, y 365, y 366, y 367, y 368, y 369, y 370, y 371, y 372, y 373, y 374, y 375, y 376, y 377, y 378, y 379, y 380, y 381, y 382, y 383, y 384, y 385, y 386, y 387, y 388, y 389, y 390, y 391, y 392, y 393, y 394, y 395, y 396, y 397, y 398, y 399, y 400, y 401, y 402, y 403, y 404, y 405, y 406, y 407, y 408, y 409, y 410, y 411, y 412, y 413, y 414, y 415, y 416, y 417, y 418, y 419, y 420, y 421, y 422, y 423, y 424, y 425, y 426, y 427, y 428, y 429, y 430, y 431, y 432, y 433, y 434, y 435, y 436, y 437, y 438, y 439, y 440, y 441, y 442, y 443, y 444, y 445, y 446, y 447, y 448, y 449, y 450], defers := [] } := by
  obtain ⟨tmps, defers⟩ := a
  have yd : defers = [] := hd
  subst yd
  obtain ⟨y, hy, hi⟩ := arr_451 tmps hs
  have e0 := (hi 0).trans h0
  have e2 := (hi 2).trans h2
  have e3 := (hi 3).trans h3
  have e4 := (hi 4).trans h4
  have e5 := (hi 5).trans h5
  have e20 := (hi 20).trans h20
  have e25 := (hi 25).trans h25
  have e26 := (hi 26).trans h26
  have e27 := (hi 27).trans h27
  have e28 := (hi 28).trans h28
  rw [e0, e2, e3, e4, e5, e20, e25, e26, e27, e28] at hy
  exact ⟨y, congrArg (fun t => (⟨t, []⟩ : Act)) hy⟩

set_option maxRecDepth 40000 in
set_option maxHeartbeats 8000000 in
/-- The rounds. -/
theorem md_15 (w0 : World) (G : GR) (a0 : Option Addr) (k0 ga gm g0 g1 g2 g3 : Nat) (R : Nat → Nat → Bool) (g8 g9 g10 : Nat) (v20 : Value) (ok : G.Ok) (wr : World) (hI : XHI w0 G ga gm g0 g1 g2 g3 R g8 g9 g10 0 0 v20 wr) (a : Act) (hf : FX a0 G.n k0 ga gm G.E g8 g9 g10 a) (h20 : a.tmps.getD 20 undef = v20) (h28 : a.tmps.getD 28 undef = .int .i64 0) (Q : Exit → Act → World → Prop)
    (hC : ∀ (a : Act) (w : World) (rd : Nat) (v20 : Value), FX a0 G.n k0 ga gm G.E g8 g9 g10 a → a.tmps.getD 20 undef = v20 → XHI w0 G ga gm g0 g1 g2 g3 R g8 g9 g10 G.n rd v20 w → Q .normal a w) :
    Code.wp Try.prog (sL (tl 24 (Try.f10.body.getD .skip))) Q a wr := by
  obtain ⟨y, rfl⟩ := lity hf.fe.fm.sz hf.fe.fm.df hf.fe.fm.s0 hf.fe.fm.s2 hf.fe.fm.s3 hf.fe.fm.s4 hf.fe.s5 h20 hf.s25 hf.s26 hf.s27 h28
  have hn := ok.n
  have hE := ok.E
  have HO : Hid G.Ok := ok
  have HI : Hid (XHI w0 G ga gm g0 g1 g2 g3 R g8 g9 g10 0 0 v20 wr) := hI
  have HC : Hid (∀ (a : Act) (w : World) (rd : Nat) (v20 : Value), FX a0 G.n k0 ga gm G.E g8 g9 g10 a → a.tmps.getD 20 undef = v20 → XHI w0 G ga gm g0 g1 g2 g3 R g8 g9 g10 G.n rd v20 w → Q .normal a w) := hC
  clear hf hC hI ok h20 h28
  show Code.wp Try.prog (Code.seq _ (Code.block 20 (Code.loop (Code.seq (Code.seq _ (Code.cond (.tmp 296) Code.skip (Code.exit 20))) (Code.seq (Code.block 21 (f10x (Try.f10.body.getD .skip))) _))))) Q _ wr
  refine wp_seq_k (fun K1 hK => ?_)
  have HK1 : Hid (∀ (a : Act) (w : World), _ → K1 a w) := hK
  clear hK
  go_wp2
  refine HK1.out _ _ ?_
  clear HK1 K1
  refine wp_block ?_
  refine wp_loop (LxI w0 G a0 k0 ga gm g0 g1 g2 g3 R g8 g9 g10) (fun a _ => mus 29 G.n a) ⟨0, 0, v20, ⟨⟨⟨⟨by kernel_rfl, by kernel_rfl, by kernel_rfl, by kernel_rfl, by kernel_rfl, by kernel_rfl⟩, by kernel_rfl⟩, by kernel_rfl, by kernel_rfl, by kernel_rfl⟩, by kernel_rfl, by kernel_rfl, by kernel_rfl⟩, Nat.zero_le _, Nat.zero_le _, HI.out⟩ ?_
  clear HI y v20
  rintro a w' ⟨x, rd, v20, hf, x1, hrd, hI⟩
  have HI : Hid (XHI w0 G ga gm g0 g1 g2 g3 R g8 g9 g10 x rd v20 w') := hI
  have e29 : mus 29 G.n a = G.n - x := congrArg (fun v => G.n - (intOf v).toNat) hf.s29
  obtain ⟨y2, rfl⟩ := litx hf.fx.fe.fm.sz hf.fx.fe.fm.df hf.fx.fe.fm.s0 hf.fx.fe.fm.s2 hf.fx.fe.fm.s3 hf.fx.fe.fm.s4 hf.fx.fe.s5 hf.s20 hf.fx.s25 hf.fx.s26 hf.fx.s27 hf.s28 hf.s29
  rw [e29]
  clear e29 hf hI
  refine wp_seq_k (fun K1 hK => ?_)
  have HK1 : Hid (∀ (a : Act) (w : World), _ → K1 a w) := hK
  clear hK
  refine wp_seq_k (fun K2 hK => ?_)
  have HK2 : Hid (∀ (a : Act) (w : World), _ → K2 a w) := hK
  clear hK
  by_cases hx : x < G.n
  · have hxx : (x : Int) < (G.n : Int) := by omega
    go_wp2
    refine HK2.out _ _ (wp_cond_true (by kernel_rfl) (wp_skip ?_))
    refine HK1.out _ _ ?_
    clear HK1 K1 HK2 K2
    refine wp_seq_k (fun K1 hK => ?_)
    have HK1 : Hid (∀ (a : Act) (w : World), _ → K1 a w) := hK
    clear hK
    refine wp_block ?_
    show Code.wp Try.prog (Code.seq (sL (f10x (Try.f10.body.getD .skip))) (Code.seq (sL (tl 1 (f10x (Try.f10.body.getD .skip)))) (Code.seq _ (Code.seq (sL (tl 3 (f10x (Try.f10.body.getD .skip)))) _)))) _ _ w'
    obtain ⟨par, st, wh, B, nc, cn, cl, D, hX, hP, hs⟩ := HI.out
    clear HI
    have hncE : nc ≤ G.E := hP.nc_le (fun f hf => hf.1)
    refine wp_seq_k (fun K2 hK => ?_)
    have HK2 : Hid (∀ (a : Act) (w : World), _ → K2 a w) := hK
    clear hK
    refine md_13a w0 G a0 k0 ga gm g0 g1 g2 g3 R g8 g9 g10 v20 rd x st wh B nc cn cl HO.out par D w' hX _ ⟨⟨⟨⟨by kernel_rfl, by kernel_rfl, by kernel_rfl, by kernel_rfl, by kernel_rfl, by kernel_rfl⟩, by kernel_rfl⟩, by kernel_rfl, by kernel_rfl, by kernel_rfl⟩, by kernel_rfl, by kernel_rfl, by kernel_rfl⟩ _ (fun a w D hf hX => ?_)
    refine HK2.out _ _ ?_
    clear HK2 K2
    refine wp_seq_k (fun K2 hK => ?_)
    have HK2 : Hid (∀ (a : Act) (w : World), _ → K2 a w) := hK
    clear hK
    refine md_13b w0 G a0 k0 ga gm g0 g1 g2 g3 R g8 g9 g10 v20 rd x st wh B nc cn cl HO.out w ⟨_, _, _, D, hX, UF.init G.n, RtI.start G R x⟩ a hf _ (fun a w hf hI => ?_)
    refine HK2.out _ _ ?_
    clear HK2 K2
    obtain ⟨rt, hrt, hR⟩ := hI.begin hs
    obtain ⟨y3, rfl⟩ := litx hf.fx.fe.fm.sz hf.fx.fe.fm.df hf.fx.fe.fm.s0 hf.fx.fe.fm.s2 hf.fx.fe.fm.s3 hf.fx.fe.fm.s4 hf.fx.fe.s5 hf.s20 hf.fx.s25 hf.fx.s26 hf.fx.s27 hf.s28 hf.s29
    have HR : Hid (RHI w0 G ga gm g0 g1 g2 g3 R g8 g9 g10 v20 x rt B nc cn cl 0 rd (.slice none 0 0) w) := hR
    have HRT : Hid (RtI G R x G.E rt) := hrt
    have HPT : Hid (PT (Sb G R G.E) (Rl G R x) nc cn cl) := hP
    clear hR hrt hI hX hf hP hs
    refine wp_seq_k (fun K2 hK => ?_)
    have HK2 : Hid (∀ (a : Act) (w : World), _ → K2 a w) := hK
    clear hK
    go_wp2
    refine HK2.out _ _ ?_
    clear HK2 K2
    refine wp_seq_k (fun K2 hK => ?_)
    have HK2 : Hid (∀ (a : Act) (w : World), _ → K2 a w) := hK
    clear hK
    refine md_14 w0 G a0 k0 ga gm g0 g1 g2 g3 R g8 g9 g10 v20 rd x rt B nc cn cl HO.out HRT.out HPT.out (by omega) _ w HR.out _ ⟨⟨⟨⟨by kernel_rfl, by kernel_rfl, by kernel_rfl, by kernel_rfl, by kernel_rfl, by kernel_rfl⟩, by kernel_rfl⟩, by kernel_rfl, by kernel_rfl, by kernel_rfl⟩, by kernel_rfl, by kernel_rfl, by kernel_rfl⟩ (by kernel_rfl) _ (fun a w rd2 v31 hf h31 hrd2 hR2 => ?_)
    refine HK2.out _ _ ?_
    clear HK2 K2
    have fin : Hid (XHI w0 G ga gm g0 g1 g2 g3 R g8 g9 g10 (x + 1) rd2 v31 w) := hR2.next HPT.out
    obtain ⟨y4, rfl⟩ := litu hf.fx.fe.fm.sz hf.fx.fe.fm.df hf.fx.fe.fm.s0 hf.fx.fe.fm.s2 hf.fx.fe.fm.s3 hf.fx.fe.fm.s4 hf.fx.fe.s5 hf.s20 hf.fx.s25 hf.fx.s26 hf.fx.s27 hf.s28 hf.s29 h31
    clear hf h31 hR2 HR HRT HPT
    have hrd3 : rd2 ≤ (x + 1) * 4096 := by omega
    go_wp2
    refine HK1.out _ _ ?_
    clear HK1 K1
    go_wp2
    exact ⟨⟨x + 1, rd2, v31, ⟨⟨⟨⟨by kernel_rfl, by kernel_rfl, by kernel_rfl, by kernel_rfl, by kernel_rfl, by kernel_rfl⟩, by kernel_rfl⟩, by kernel_rfl, by kernel_rfl, by kernel_rfl⟩, by kernel_rfl, by kernel_rfl, by kernel_rfl⟩, by omega, hrd3, fin.out⟩, Nat.lt_of_le_of_lt (Nat.le_of_eq (by kernel_rfl : _ = G.n - (x + 1))) (by omega)⟩
  · have hxx : ¬ (x : Int) < (G.n : Int) := by omega
    obtain rfl : x = G.n := by omega
    go_wp2
    refine HK2.out _ _ (wp_cond_false (by kernel_rfl) (wp_exit ?_))
    exact HC.out _ _ rd v20 ⟨⟨⟨by kernel_rfl, by kernel_rfl, by kernel_rfl, by kernel_rfl, by kernel_rfl, by kernel_rfl⟩, by kernel_rfl⟩, by kernel_rfl, by kernel_rfl, by kernel_rfl⟩ (by kernel_rfl) HI.out
end Go.Proofs.Qxb6602148a
