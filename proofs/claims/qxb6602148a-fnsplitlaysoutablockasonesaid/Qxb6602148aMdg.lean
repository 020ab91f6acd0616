/-
  'zzBuildModel': an edge joins its group.
-/
import Derived.Test.Qxb6602148aMr
attribute [local go_sem] Go.Proofs.Qxb6602148a.yTo Go.Proofs.Qxb6602148a.yUpon
namespace Go.Proofs.Qxb6602148a
open Go.RowKit
set_option linter.unusedVariables false
set_option linter.unusedSimpArgs false

theorem KD_l (B i : Nat) : KD (16 + B + i) = (3, 1) := by unfold KD; rw [if_neg (by omega), if_neg (by omega), if_neg (by omega)]
section
variable {w0 w w2 : World} {G : GR} {ga gm g0 g1 g2 g3 g4 : Nat} {R : Nat → Nat → Bool} {g6 : Nat} {gof : Nat → Int} {v20 : Value} {nc : Nat} {cn : Nat → Nat} {cl : Nat → Nat → Nat} {D : Fam}
theorem GS.push (h : GS w0 G ga gm g0 g1 g2 g3 g4 R g6 gof v20 nc cn cl D w) {i g7 f g cap : Nat} {o : Obj} (hi : i < nc) (b7 : D.b 7 = some g7) (hR : Rep KD w2 (D.put (16 + 0 + i) (some g) (cn i + 1) cap (ext (D.F (16 + 0 + i)) (cn i * 1) [.int .i64 (f : Int)])))
    (hG : Grew D (w.alloc o) (D.put (16 + 0 + i) (some g) (cn i + 1) cap (ext (D.F (16 + 0 + i)) (cn i * 1) [.int .i64 (f : Int)])) w2) :
    ∃ D', GS w0 G ga gm g0 g1 g2 g3 g4 R g6 gof v20 nc (up cn i (cn i + 1)) (upl cl i (cn i) f) D' (w2.setCell ⟨g7, i, none⟩ (.slice (some ⟨g, 0, none⟩) (cn i + 1) cap)) := by
  have h1 := DS.putA h.rm.ds (r := 16 + 0 + i) ⟨by omega, by omega, by omega⟩ hR ((h.rm.ds.grew.alloc o).trans hG)
  have b7' : (D.put (16 + 0 + i) (some g) (cn i + 1) cap (ext (D.F (16 + 0 + i)) (cn i * 1) [.int .i64 (f : Int)])).b 7 = some g7 := (put_b (by omega)).trans b7
  refine ⟨_, ⟨DS.setA h1 (r := 7) ⟨by omega, by omega, by omega⟩ b7' i _, by rw [set_b, put_b (by omega)]; exact h.rm.b4, (h.rm.r4.put_ne (by omega)).set_ne (by omega)⟩, by rw [set_b, put_b (by omega)]; exact h.b6, (h.i6.put_ne (by omega)).set_ne (by omega), ?_, h.ls.push (by omega) hi f g cap⟩
  rw [set_val, put_val (by omega)]; exact h.v7
theorem GS.open (h : GS w0 G ga gm g0 g1 g2 g3 g4 R g6 gof v20 nc cn cl D w) (r : Nat) : GS w0 G ga gm g0 g1 g2 g3 g4 R g6 (upd gof r ((nc : Nat) : Int)) v20 nc cn cl (D.set 6 r (.int .i64 (nc : Int))) (w.setCell ⟨g6, r, none⟩ (.int .i64 (nc : Int))) :=
  ⟨⟨DS.setA h.rm.ds ⟨by omega, by omega, by omega⟩ h.b6 r _, h.rm.b4, h.rm.r4.set_ne (by omega)⟩, h.b6, h.i6.set, h.v7, h.ls.set_ne (by omega) (by omega)⟩
theorem GS.rep0 (h : GS w0 G ga gm g0 g1 g2 g3 g4 R g6 gof v20 nc cn cl D w) : Rep KD w (D.put (16 + 0 + nc) none 0 0 (D.F 16)) := h.rm.ds.rep.drop _ _
theorem GS.new (h : GS w0 G ga gm g0 g1 g2 g3 g4 R g6 gof v20 nc cn cl D w) {g cap : Nat} {o : Obj} (hR : Rep KD w2 ((D.put (16 + 0 + nc) none 0 0 (D.F 16)).put 7 (some g) (nc + 1) cap (ext ((D.put (16 + 0 + nc) none 0 0 (D.F 16)).F 7) (nc * 1) [.slice none 0 0])))
    (hG : Grew (D.put (16 + 0 + nc) none 0 0 (D.F 16)) (w.alloc o) ((D.put (16 + 0 + nc) none 0 0 (D.F 16)).put 7 (some g) (nc + 1) cap (ext ((D.put (16 + 0 + nc) none 0 0 (D.F 16)).F 7) (nc * 1) [.slice none 0 0])) w2) :
    ∃ D', GS w0 G ga gm g0 g1 g2 g3 g4 R g6 gof (.slice (some ⟨g, 0, none⟩) (nc + 1) cap) (nc + 1) (up cn nc 0) cl D' w2 := by
  have h0 := DS.putA h.rm.ds (r := 16 + 0 + nc) ⟨by omega, by omega, by omega⟩ h.rep0 (h.rm.ds.grew.put (.inr rfl))
  have h1 := DS.putA h0 (r := 7) ⟨by omega, by omega, by omega⟩ hR ((h0.grew.alloc o).trans hG)
  exact ⟨_, ⟨h1, (put_b (by omega)).trans ((put_b (by omega)).trans h.rm.b4), (h.rm.r4.put_ne (by omega)).put_ne (by omega)⟩, (put_b (by omega)).trans ((put_b (by omega)).trans h.b6), (h.i6.put_ne (by omega)).put_ne (by omega), put_vals, h.ls.new (by omega) _ g cap⟩
end

def f10b (c : Code) : Code := bl (sL (tl 1 (lp (bl (tl 1 (sL (tl 19 c)))))))
set_option maxRecDepth 40000 in
theorem lith {a : Act} {u0 u2 u3 u4 u5 u7 u10 u18 u20 u22 : Value} (hs : a.tmps.size = 451) (hd : a.defers = []) (h0 : a.tmps.getD 0 undef = u0) (h2 : a.tmps.getD 2 undef = u2) (h3 : a.tmps.getD 3 undef = u3) (h4 : a.tmps.getD 4 undef = u4) (h5 : a.tmps.getD 5 undef = u5) (h7 : a.tmps.getD 7 undef = u7) (h10 : a.tmps.getD 10 undef = u10) (h18 : a.tmps.getD 18 undef = u18) (h20 : a.tmps.getD 20 undef = u20) (h22 : a.tmps.getD 22 undef = u22) : ∃ y : Nat → Value, a = { tmps := #[u0, y 1, u2, u3, u4, u5, y 6, u7, y 8, y 9, u10, y 11, y 12, y 13, y 14, y 15, y 16, y 17, u18, y 19, u20, y 21, u22, y 23, y 24, y 25, y 26, y 27, y 28, y 29, y 30, y 31, y 32, y 33, y 34, y 35, y 36, y 37, y 38, y 39, y 40, y 41, y 42, y 43, y 44, y 45, y 46, y 47, y 48, y 49, y 50, y 51, y 52, y 53, y 54, y 55, y 56, y 57, y 58, y 59, y 60, y 61, y 62, y 63, y 64, y 65, y 66, y 67, y 68, y 69, y 70, y 71, y 72, y 73, y 74, y 75, y 76, y 77, y 78, y 79, y 80, y 81, y 82, y 83, y 84, y 85, y 86, y 87, y 88, y 89, y 90, y 91, y 92, y 93, y 94, y 95, y 96, y 97, y 98, y 99, y 100, y 101, y 102, y 103, y 104, y 105, y 106, y 107, y 108, y 109, y 110, y 111, y 112, y 113, y 114, y 115, y 116, y 117, y 118, y 119, y 120, y 121, y 122, y 123, y 124, y 125, y 126, y 127, y 128, y 129, y 130, y 131, y 132, y 133, y 134, y 135, y 136, y 137, y 138, y 139, y 140, y 141, y 142, y 143, y 144, y 145, y 146, y 147, y 148, y 149, y 150, y 151, y 152, y 153, y 154, y 155, y 156, y 157, y 158, y 159, y 160, y 161, y 162, y 163, y 164, y 165, y 166, y 167, y 168, y 169, y 170, y 171, y 172, y 173, y 174, y 175, y 176, y 177, y 178, y 179, y 180, y 181, y 182, y 183, y 184, y 185, y 186, y 187, y 188, y 189, y 190, y 191, y 192, y 193, y 194, y 195, y 196, y 197, y 198, y 199, y 200, y 201, y 202, y 203, y 204, y 205, y 206, y 207, y 208, y 209, y 210, y 211, y 212, y 213, y 214, y 215, y 216, y 217, y 218, y 219, y 220, y 221, y 222, y 223, y 224, y 225, y 226, y 227, y 228, y 229, y 230, y 231, y 232, y 233, y 234, y 235, y 236, y 237, y 238, y 239, y 240, y 241, y 242, y 243, y 244, y 245, y 246, y 247, y 248, y 249, y 250, y 251, y 252, y 253, y 254, y 255, y 256, y 257, y 258, y 259, y 260, y 261, y 262, y 263, y 264, y 265, y 266, y 267, y 268, y 269, y 270, y 271, y 272, y 273, y 274, y 275, y 276, y 277, y 278, y 279, y 280, y 281, y 282, y 283, y 284, y 285, y 286, y 287, y 288, y 289, y 290, y 291, y 292, y 293, y 294, y 295, y 296, y 297, y 298, y 299, y 300, y 301, y 302, y 303, y 304, y 305, y 306, y 307, y 308, y 309, y 310, y 311, y 312, y 313, y 314, y 315, y 316, y 317, y 318, y 319, y 320, y 321, y 322, y 323, y 324, y 325, y 326, y 327, y 328, y 329, y 330, y 331, y 332, y 333, y 334, y 335, y 336, y 337, y 338, y 339, y 340, y 341, y 342, y 343, y 344, y 345, y 346, y 347, y 348, y 349, y 350, y 351, y 352, y 353, y 354, y 355, y 356, y 357, y 358, y 359, y 360, y 361, y 362, y 363, y 364, y 365, y 366, y 367, y 368, y 369, y 370, y 371, y 372, y 373, y 374, y 375, y 376, y 377, y 378, y 379, y 380, y 381, y 382, y 383, y 384, y 385, y 386, y 387, y 388, y 389, y 390, y 391, y 392, y 393, y 394, y 395, y 396, y 397, y 398, y 399, y 400, y 401, y 402, y 403, y 404, y 405, y 406, y 407, y 408, y 409, y 410, y 411, y 412, y 413, y 414, y 415, y 416, y 417, y 418, y 419, y 420, y 421, y 422, y 423, y 424, y 425, y 426, y 427, y 428, y 429, y 430, y 431, y 432, y 433, y 434, y 435, y 436, y 437, y 438, y 439, y 440, y 441, y 442, y 443, y 444, y 445, y 446, y 447, y 448, y 449, y 450], defers := [] } := by
  obtain ⟨tmps, defers⟩ := a
  have yd : defers = [] := hd
  subst yd
  obtain ⟨y, hy, hi⟩ := arr_451 tmps hs
  have e0 := (hi 0).trans h0
  have e2 := (hi 2).trans h2
  have e3 := (hi 3).trans h3
  have e4 := (hi 4).trans h4
  have e5 := (hi 5).trans h5
  have e7 := (hi 7).trans h7
  have e10 := (hi 10).trans h10
  have e18 := (hi 18).trans h18
  have e20 := (hi 20).trans h20
  have e22 := (hi 22).trans h22
  rw [e0, e2, e3, e4, e5, e7, e10, e18, e20, e22] at hy
  exact ⟨y, congrArg (fun t => (⟨t, []⟩ : Act)) hy⟩

set_option maxRecDepth 40000 in
set_option maxHeartbeats 4000000 in
/-- Regions 68 and 69. -/
theorem md_11c (w0 : World) (G : GR) (a0 : Option Addr) (k0 ga gm g0 g1 g2 g3 g4 m : Nat) (R : Nat → Nat → Bool) (g6 e r i : Nat) (gof : Nat → Int) (v20 : Value) (nc : Nat) (cn : Nat → Nat) (cl : Nat → Nat → Nat) (D : Fam) (wr : World)
    (hS : GS w0 G ga gm g0 g1 g2 g3 g4 R g6 gof v20 nc cn cl D wr) (hr : r < G.n) (hg : gof r = ((i : Nat) : Int)) (hi : i < nc) (hcn : cn i ≤ 4096) (hnc : nc ≤ 4097)
    (a : Act) (hf : FG a0 G.n k0 ga gm G.E g4 m g6 a) (h7 : a.tmps.getD 7 undef = .int .i64 (e : Int)) (h20 : a.tmps.getD 20 undef = v20) (h22 : a.tmps.getD 22 undef = .int .i64 (r : Int)) (Q : Exit → Act → World → Prop)
    (hC : ∀ (a : Act) (w : World) (D' : Fam), FG a0 G.n k0 ga gm G.E g4 m g6 a → a.tmps.getD 7 undef = .int .i64 (e : Int) → a.tmps.getD 20 undef = v20 → GS w0 G ga gm g0 g1 g2 g3 g4 R g6 gof v20 nc (up cn i (cn i + 1)) (upl cl i (cn i) e) D' w → Q .normal a w) :
    Code.wp Try.prog (tl 5 (f10b (Try.f10.body.getD .skip))) Q a wr := by
  obtain ⟨i3, hi3, hz30, hz31, hz32⟩ := info_parts Try.info3
  have v7 := hS.v7
  have n7 : D.n 7 = nc := hS.ls.n
  obtain ⟨g7, b7⟩ := hS.rm.ds.rep.hasBlock (i := 7) (by rw [n7]; omega)
  rw [val_some b7, n7] at v7
  have l7 := hS.rm.ds.rep.le_cap 7
  rw [n7] at l7
  generalize D.cap 7 = k7 at *
  subst v7
  obtain ⟨y, rfl⟩ := lith hf.fs.fe.fm.sz hf.fs.fe.fm.df hf.fs.fe.fm.s0 hf.fs.fe.fm.s2 hf.fs.fe.fm.s3 hf.fs.fe.fm.s4 hf.fs.fe.s5 h7 hf.fs.s10 hf.s18 h20 h22
  have x1 := hS.i6.cell' hS.rm.ds.rep hS.b6 rfl hr
  rw [hg] at x1
  have hL := hS.ls.L i hi
  have hv : D.val (16 + 0 + i) = .slice ((D.b (16 + 0 + i)).map fun g => ⟨g, 0, none⟩) (cn i) (D.cap (16 + 0 + i)) := by unfold Fam.val; rw [hL.1]
  have x2 := (hS.rm.ds.rep.cell b7 (j := i) (by rw [n7]; show i < nc * 1; omega)).trans (congrArg some ((hS.ls.F i hi).trans hv))
  have FY : Hid (∀ g cap w2, Rep KD w2 (D.put (16 + 0 + i) (some g) (cn i + 1) cap (ext (D.F (16 + 0 + i)) (cn i * 1) [.int .i64 (e : Int)])) → w2.cell? ⟨g7, i, none⟩ = some (.slice ((D.b (16 + 0 + i)).map fun g => ⟨g, 0, none⟩) (cn i) (D.cap (16 + 0 + i))) ∧ w2.frozen? ⟨g7, i, none⟩ = false) := by
    intro g cap w2 hR
    have b7' : (D.put (16 + 0 + i) (some g) (cn i + 1) cap (ext (D.F (16 + 0 + i)) (cn i * 1) [.int .i64 (e : Int)])).b 7 = some g7 := (put_b (by omega)).trans b7
    refine ⟨(hR.cell b7' (j := i) (by rw [put_n (by omega), n7]; show i < nc * 1; omega)).trans (congrArg some ?_), hR.frozen b7' i⟩
    rw [put_F (by omega)]
    exact (hS.ls.F i hi).trans hv
  have FN : Hid (∀ (g cap : Nat) (w2 : World) (o : Obj), Rep KD w2 (D.put (16 + 0 + i) (some g) (cn i + 1) cap (ext (D.F (16 + 0 + i)) (cn i * 1) [.int .i64 (e : Int)])) → Grew D (wr.alloc o) (D.put (16 + 0 + i) (some g) (cn i + 1) cap (ext (D.F (16 + 0 + i)) (cn i * 1) [.int .i64 (e : Int)])) w2 → ∃ D', GS w0 G ga gm g0 g1 g2 g3 g4 R g6 gof (.slice (some ⟨g7, 0, none⟩) nc k7) nc (up cn i (cn i + 1)) (upl cl i (cn i) e) D' (w2.setCell ⟨g7, i, none⟩ (.slice (some ⟨g, 0, none⟩) (cn i + 1) cap))) := fun g cap w2 o h1 h2 => hS.push hi b7 h1 h2
  have HR : Hid (Rep KD wr D) := hS.rm.ds.rep
  have HL : Hid (D.n (16 + 0 + i) = cn i) := hL.1
  have HV : Hid (D.val (16 + 0 + i) = .slice ((D.b (16 + 0 + i)).map fun g => ⟨g, 0, none⟩) (cn i) (D.cap (16 + 0 + i))) := hv
  have HC : Hid (∀ (a : Act) (w : World) (D' : Fam), FG a0 G.n k0 ga gm G.E g4 m g6 a → a.tmps.getD 7 undef = .int .i64 (e : Int) → a.tmps.getD 20 undef = .slice (some ⟨g7, 0, none⟩) nc k7 → GS w0 G ga gm g0 g1 g2 g3 g4 R g6 gof (.slice (some ⟨g7, 0, none⟩) nc k7) nc (up cn i (cn i + 1)) (upl cl i (cn i) e) D' w → Q .normal a w) := hC
  clear hf h7 h20 h22 hC hS hL hv b7 n7 hg
  have hii : (i : Int) < (nc : Int) := by omega
  have hrr : (r : Int) < (G.n : Int) := by omega
  generalize hc : cn i = c at *
  clear hc
  generalize (D.b (16 + 0 + i)).map (fun g => (⟨g, 0, none⟩ : Addr)) = o7 at *
  generalize D.cap (16 + 0 + i) = kk at *
  show Code.wp Try.prog (Code.seq _ _) Q _ wr
  refine wp_seq_k (fun K1 hK => ?_)
  have HK1 : Hid (∀ (a : Act) (w : World), _ → K1 a w) := hK
  clear hK
  go_wp2
  refine HK1.out _ _ ?_
  clear HK1 K1
  go_wp2_with (at_builtin; refine wpList_append_row rfl (HR.out.alloc _) (16 + 0 + i) c HL.out (.tmp 283) (.tmp 285) 26 rfl 3 i3 (.int .i64 0) 1 8 (KD_l 0 i) Try.underlying26 hi3 hz30 hz31 hz32 rfl (by decide) (Eq.trans rfl HV.out.symm) ⟨wr.heap.size, 0, none⟩ 1 [.int .i64 (e : Int)] rfl rfl (news1 _ _ _) (by simp [Value.oneCell']) (by omega) (by decide) ?_; intro gn kn w2 hR2 hG2; obtain ⟨y1, y2⟩ := FY.out gn kn w2 hR2; have FF := FN.out gn kn w2 _ hR2 hG2; have HFF : Hid (∃ D', GS w0 G ga gm g0 g1 g2 g3 g4 R g6 gof (.slice (some ⟨g7, 0, none⟩) nc k7) nc (up cn i (c + 1)) (upl cl i c e) D' (w2.setCell ⟨g7, i, none⟩ (.slice (some ⟨gn, 0, none⟩) (c + 1) kn))) := FF; clear hR2 hG2 FF)
  obtain ⟨D', hF⟩ := HFF.out
  exact HC.out _ _ D' ⟨⟨⟨⟨by kernel_rfl, by kernel_rfl, by kernel_rfl, by kernel_rfl, by kernel_rfl, by kernel_rfl⟩, by kernel_rfl⟩, by kernel_rfl⟩, by kernel_rfl⟩ (by kernel_rfl) (by kernel_rfl) hF

set_option maxRecDepth 40000 in
set_option maxHeartbeats 4000000 in
/-- Regions 66 and 67. -/
theorem md_11b (w0 : World) (G : GR) (a0 : Option Addr) (k0 ga gm g0 g1 g2 g3 g4 m : Nat) (R : Nat → Nat → Bool) (g6 e r : Nat) (gof : Nat → Int) (v20 : Value) (nc : Nat) (cn : Nat → Nat) (cl : Nat → Nat → Nat) (D : Fam) (wr : World)
    (hS : GS w0 G ga gm g0 g1 g2 g3 g4 R g6 gof v20 nc cn cl D wr) (hr : r < G.n) (hnc : nc ≤ 4096)
    (a : Act) (hf : FG a0 G.n k0 ga gm G.E g4 m g6 a) (h7 : a.tmps.getD 7 undef = .int .i64 (e : Int)) (h20 : a.tmps.getD 20 undef = v20) (h22 : a.tmps.getD 22 undef = .int .i64 (r : Int)) (Q : Exit → Act → World → Prop)
    (hC : ∀ (a : Act) (w : World) (D' : Fam) (v20 : Value), FG a0 G.n k0 ga gm G.E g4 m g6 a → a.tmps.getD 7 undef = .int .i64 (e : Int) → a.tmps.getD 20 undef = v20 → a.tmps.getD 22 undef = .int .i64 (r : Int) → GS w0 G ga gm g0 g1 g2 g3 g4 R g6 (upd gof r ((nc : Nat) : Int)) v20 (nc + 1) (up cn nc 0) cl D' w → Q .normal a w) :
    Code.wp Try.prog (cT (tl 1 (sL (tl 4 (f10b (Try.f10.body.getD .skip)))))) Q a wr := by
  obtain ⟨i26, hi26, hz260, hz261, hz262⟩ := info_parts Try.info26
  have x1 := hS.i6.cell' hS.rm.ds.rep hS.b6 rfl hr
  have f1 := hS.rm.ds.rep.frozen hS.b6 r
  have hS2 := hS.open r
  have hv : D.val 7 = .slice ((D.b 7).map fun g => ⟨g, 0, none⟩) nc (D.cap 7) := by unfold Fam.val; rw [hS.ls.n]
  have v7 := hS.v7
  rw [hv] at v7
  subst v7
  obtain ⟨y, rfl⟩ := lith hf.fs.fe.fm.sz hf.fs.fe.fm.df hf.fs.fe.fm.s0 hf.fs.fe.fm.s2 hf.fs.fe.fm.s3 hf.fs.fe.fm.s4 hf.fs.fe.s5 h7 hf.fs.s10 hf.s18 h20 h22
  have hv2 : ((D.set 6 r (.int .i64 (nc : Int))).put (16 + 0 + nc) none 0 0 ((D.set 6 r (.int .i64 (nc : Int))).F 16)).val 7 = .slice ((D.b 7).map fun g => ⟨g, 0, none⟩) nc (D.cap 7) := by rw [put_val (by omega), set_val]; exact hv
  have HN : Hid (((D.set 6 r (.int .i64 (nc : Int))).put (16 + 0 + nc) none 0 0 ((D.set 6 r (.int .i64 (nc : Int))).F 16)).n 7 = nc) := (put_n (by omega)).trans hS2.ls.n
  have HV : Hid (((D.set 6 r (.int .i64 (nc : Int))).put (16 + 0 + nc) none 0 0 ((D.set 6 r (.int .i64 (nc : Int))).F 16)).val 7 = .slice ((D.b 7).map fun g => ⟨g, 0, none⟩) nc (D.cap 7)) := hv2
  have HS2 : Hid (GS w0 G ga gm g0 g1 g2 g3 g4 R g6 (upd gof r ((nc : Nat) : Int)) (.slice ((D.b 7).map fun g => ⟨g, 0, none⟩) nc (D.cap 7)) nc cn cl (D.set 6 r (.int .i64 (nc : Int))) (wr.setCell ⟨g6, r, none⟩ (.int .i64 (nc : Int)))) := hS2
  have HC : Hid (∀ (a : Act) (w : World) (D' : Fam) (v20 : Value), FG a0 G.n k0 ga gm G.E g4 m g6 a → a.tmps.getD 7 undef = .int .i64 (e : Int) → a.tmps.getD 20 undef = v20 → a.tmps.getD 22 undef = .int .i64 (r : Int) → GS w0 G ga gm g0 g1 g2 g3 g4 R g6 (upd gof r ((nc : Nat) : Int)) v20 (nc + 1) (up cn nc 0) cl D' w → Q .normal a w) := hC
  clear hf h7 h20 h22 hC hS hv hv2 hS2
  have hrr : (r : Int) < (G.n : Int) := by omega
  generalize D.set 6 r (.int .i64 (nc : Int)) = D1 at *
  generalize (D.b 7).map (fun g => (⟨g, 0, none⟩ : Addr)) = o7 at *
  generalize D.cap 7 = kk at *
  generalize gof r = c0 at *
  show Code.wp Try.prog (Code.seq _ _) Q _ wr
  refine wp_seq_k (fun K1 hK => ?_)
  have HK1 : Hid (∀ (a : Act) (w : World), _ → K1 a w) := hK
  clear hK
  go_wp2
  refine HK1.out _ _ ?_
  clear HK1 K1 x1 f1
  generalize wr.setCell ⟨g6, r, none⟩ (.int .i64 (nc : Int)) = w1 at *
  go_wp2_with (at_builtin; refine wpList_append_row rfl (HS2.out.rep0.alloc _) 7 nc HN.out (.tmp 271) (.tmp 272) 22 rfl 26 i26 (.slice none 0 0) 1 24 rfl Try.underlying22 hi26 hz260 hz261 hz262 rfl (by decide) (Eq.trans rfl HV.out.symm) ⟨w1.heap.size, 0, none⟩ 1 [.slice none 0 0] rfl rfl (news1 _ _ _) (by simp [Value.oneCell']) (by omega) (by decide) ?_; intro gn kn w2 hR2 hG2; have FF := HS2.out.new hR2 hG2; have HFF : Hid (∃ D', GS w0 G ga gm g0 g1 g2 g3 g4 R g6 (upd gof r ((nc : Nat) : Int)) (.slice (some ⟨gn, 0, none⟩) (nc + 1) kn) (nc + 1) (up cn nc 0) cl D' w2) := FF; clear hR2 hG2 FF)
  obtain ⟨D', hF⟩ := HFF.out
  exact HC.out _ _ D' _ ⟨⟨⟨⟨by kernel_rfl, by kernel_rfl, by kernel_rfl, by kernel_rfl, by kernel_rfl, by kernel_rfl⟩, by kernel_rfl⟩, by kernel_rfl⟩, by kernel_rfl⟩ (by kernel_rfl) (by kernel_rfl) (by kernel_rfl) hF
end Go.Proofs.Qxb6602148a
