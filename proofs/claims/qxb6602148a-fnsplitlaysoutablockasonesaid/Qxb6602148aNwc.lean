import Derived.Test.Qxb6602148aNp
attribute [local go_sem] Go.Proofs.Qxb6602148a.yTo Go.Proofs.Qxb6602148a.yUpon
namespace Go.Proofs.Qxb6602148a
open Go.RowKit
set_option linter.unusedVariables false
set_option linter.unusedSimpArgs false

structure FL2 (G : GR) (a0 : Option Addr) (k0 p i : Nat) (a : Act) : Prop where
  sz : a.tmps.size = 154
  df : a.defers = []
  s0 : a.tmps.getD 0 undef = .slice a0 G.n k0
  s3 : a.tmps.getD 3 undef = .pointer (some ⟨p, 0, none⟩)
  s7 : a.tmps.getD 7 undef = .int .i64 0
  s74 : a.tmps.getD 74 undef = .slice a0 G.n k0
  s75 : a.tmps.getD 75 undef = .int .i64 (G.n : Int)
  s76 : a.tmps.getD 76 undef = .int .i64 (i : Int)
structure FL3 (G : GR) (a0 : Option Addr) (k0 p i : Nat) (ar : Option Addr) (kr : Nat) (a : Act) : Prop where
  f2 : FL2 G a0 k0 p i a
  s8 : a.tmps.getD 8 undef = .int .i64 (i : Int)
  s10 : a.tmps.getD 10 undef = .int .i64 (i : Int)
  s85 : a.tmps.getD 85 undef = .slice ar (G.d i) kr
  s86 : a.tmps.getD 86 undef = .int .i64 ((G.d i : Nat) : Int)
set_option maxRecDepth 40000 in
theorem litn2 {a : Act} {u0 u3 u7 u74 u75 u76 : Value} (hs : a.tmps.size = 154) (hd : a.defers = []) (h0 : a.tmps.getD 0 undef = u0) (h3 : a.tmps.getD 3 undef = u3) (h7 : a.tmps.getD 7 undef = u7) (h74 : a.tmps.getD 74 undef = u74) (h75 : a.tmps.getD 75 undef = u75) (h76 : a.tmps.getD 76 undef = u76) : ∃ y : Nat → Value, a = { tmps := #[u0, y 1, y 2, u3, y 4, y 5, y 6, u7, y 8, y 9, y 10, y 11, y 12, y 13, y 14, y 15, y 16, y 17, y 18, y 19, y 20, y 21, y 22, y 23, y 24, y 25, y 26, y 27, y 28, y 29, y 30, y 31, y 32, y 33, y 34, y 35, y 36, y 37, y 38, y 39, y 40, y 41, y 42, y 43, y 44, y 45, y 46, y 47, y 48, y 49, y 50, y 51, y 52, y 53, y 54, y 55, y 56, y 57, y 58, y 59, y 60, y 61, y 62, y 63, y 64, y 65, y 66, y 67, y 68, y 69, y 70, y 71, y 72, y 73, u74, u75, u76, y 77, y 78, y 79, y 80, y 81, y 82, y 83, y 84, y 85, y 86, y 87, y 88, y 89, y 90, y 91, y 92, y 93, y 94, y 95, y 96, y 97, y 98, y 99, y 100, y 101, y 102, y 103, y 104, y 105, y 106, y 107, y 108, y 109, y 110, y 111, y 112, y 113, y 114, y 115, y 116, y 117, y 118, y 119, y 120, y 121, y 122, y 123, y 124, y 125, y 126, y 127, y 128, y 129, y 130, y 131, y 132, y 133, y 134, y 135, y 136, y 137, y 138, y 139, y 140, y 141, y 142, y 143, y 144, y 145, y 146, y 147, y 148, y 149, y 150, y 151, y 152, y 153], defers := [] } := by
  obtain ⟨tmps, defers⟩ := a
  have yd : defers = [] := hd
  subst yd
  obtain ⟨y, hy, hi⟩ := arr_154 tmps hs
  have e0 := (hi 0).trans h0
  have e3 := (hi 3).trans h3
  have e7 := (hi 7).trans h7
  have e74 := (hi 74).trans h74
  have e75 := (hi 75).trans h75
  have e76 := (hi 76).trans h76
  rw [e0, e3, e7, e74, e75, e76] at hy
  exact ⟨y, congrArg (fun t => (⟨t, []⟩ : Act)) hy⟩
set_option maxRecDepth 40000 in
theorem litn3 {a : Act} {u0 u3 u7 u8 u10 u74 u75 u76 u85 u86 u87 : Value} (hs : a.tmps.size = 154) (hd : a.defers = []) (h0 : a.tmps.getD 0 undef = u0) (h3 : a.tmps.getD 3 undef = u3) (h7 : a.tmps.getD 7 undef = u7) (h8 : a.tmps.getD 8 undef = u8) (h10 : a.tmps.getD 10 undef = u10) (h74 : a.tmps.getD 74 undef = u74) (h75 : a.tmps.getD 75 undef = u75) (h76 : a.tmps.getD 76 undef = u76) (h85 : a.tmps.getD 85 undef = u85) (h86 : a.tmps.getD 86 undef = u86) (h87 : a.tmps.getD 87 undef = u87) : ∃ y : Nat → Value, a = { tmps := #[u0, y 1, y 2, u3, y 4, y 5, y 6, u7, u8, y 9, u10, y 11, y 12, y 13, y 14, y 15, y 16, y 17, y 18, y 19, y 20, y 21, y 22, y 23, y 24, y 25, y 26, y 27, y 28, y 29, y 30, y 31, y 32, y 33, y 34, y 35, y 36, y 37, y 38, y 39, y 40, y 41, y 42, y 43, y 44, y 45, y 46, y 47, y 48, y 49, y 50, y 51, y 52, y 53, y 54, y 55, y 56, y 57, y 58, y 59, y 60, y 61, y 62, y 63, y 64, y 65, y 66, y 67, y 68, y 69, y 70, y 71, y 72, y 73, u74, u75, u76, y 77, y 78, y 79, y 80, y 81, y 82, y 83, y 84, u85, u86, u87, y 88, y 89, y 90, y 91, y 92, y 93, y 94, y 95, y 96, y 97, y 98, y 99, y 100, y 101, y 102, y 103, y 104, y 105, y 106, y 107, y 108, y 109, y 110, y 111, y 112, y 113, y 114, y 115, y 116, y 117, y 118, y 119, y 120, y 121, y 122, y 123, y 124, y 125, y 126, y 127, y 128, y 129, y 130, y 131, y 132, y 133, y 134, y 135, y 136, y 137, y 138, y 139, y 140, y 141, y 142, y 143, y 144, y 145, y 146, y 147, y 148, y 149, y 150, y 151, y 152, y 153], defers := [] } := by
  obtain ⟨tmps, defers⟩ := a
  have yd : defers = [] := hd
  subst yd
  obtain ⟨y, hy, hi⟩ := arr_154 tmps hs
  have e0 := (hi 0).trans h0
  have e3 := (hi 3).trans h3
  have e7 := (hi 7).trans h7
  have e8 := (hi 8).trans h8
  have e10 := (hi 10).trans h10
  have e74 := (hi 74).trans h74
  have e75 := (hi 75).trans h75
  have e76 := (hi 76).trans h76
  have e85 := (hi 85).trans h85
  have e86 := (hi 86).trans h86
  have e87 := (hi 87).trans h87
  rw [e0, e3, e7, e8, e10, e74, e75, e76, e85, e86, e87] at hy
  exact ⟨y, congrArg (fun t => (⟨t, []⟩ : Act)) hy⟩
set_option maxRecDepth 40000 in
theorem litn8 {a : Act} {u0 u3 u7 u8 u9 u10 u74 u75 u76 : Value} (hs : a.tmps.size = 154) (hd : a.defers = []) (h0 : a.tmps.getD 0 undef = u0) (h3 : a.tmps.getD 3 undef = u3) (h7 : a.tmps.getD 7 undef = u7) (h8 : a.tmps.getD 8 undef = u8) (h9 : a.tmps.getD 9 undef = u9) (h10 : a.tmps.getD 10 undef = u10) (h74 : a.tmps.getD 74 undef = u74) (h75 : a.tmps.getD 75 undef = u75) (h76 : a.tmps.getD 76 undef = u76) : ∃ y : Nat → Value, a = { tmps := #[u0, y 1, y 2, u3, y 4, y 5, y 6, u7, u8, u9, u10, y 11, y 12, y 13, y 14, y 15, y 16, y 17, y 18, y 19, y 20, y 21, y 22, y 23, y 24, y 25, y 26, y 27, y 28, y 29, y 30, y 31, y 32, y 33, y 34, y 35, y 36, y 37, y 38, y 39, y 40, y 41, y 42, y 43, y 44, y 45, y 46, y 47, y 48, y 49, y 50, y 51, y 52, y 53, y 54, y 55, y 56, y 57, y 58, y 59, y 60, y 61, y 62, y 63, y 64, y 65, y 66, y 67, y 68, y 69, y 70, y 71, y 72, y 73, u74, u75, u76, y 77, y 78, y 79, y 80, y 81, y 82, y 83, y 84, y 85, y 86, y 87, y 88, y 89, y 90, y 91, y 92, y 93, y 94, y 95, y 96, y 97, y 98, y 99, y 100, y 101, y 102, y 103, y 104, y 105, y 106, y 107, y 108, y 109, y 110, y 111, y 112, y 113, y 114, y 115, y 116, y 117, y 118, y 119, y 120, y 121, y 122, y 123, y 124, y 125, y 126, y 127, y 128, y 129, y 130, y 131, y 132, y 133, y 134, y 135, y 136, y 137, y 138, y 139, y 140, y 141, y 142, y 143, y 144, y 145, y 146, y 147, y 148, y 149, y 150, y 151, y 152, y 153], defers := [] } := by
  obtain ⟨tmps, defers⟩ := a
  have yd : defers = [] := hd
  subst yd
  obtain ⟨y, hy, hi⟩ := arr_154 tmps hs
  have e0 := (hi 0).trans h0
  have e3 := (hi 3).trans h3
  have e7 := (hi 7).trans h7
  have e8 := (hi 8).trans h8
  have e9 := (hi 9).trans h9
  have e10 := (hi 10).trans h10
  have e74 := (hi 74).trans h74
  have e75 := (hi 75).trans h75
  have e76 := (hi 76).trans h76
  rw [e0, e3, e7, e8, e9, e10, e74, e75, e76] at hy
  exact ⟨y, congrArg (fun t => (⟨t, []⟩ : Act)) hy⟩

def nB3 (c : Code) : Code := bl (sL (tl 2 (lp (bl (tl 1 (sL (tl 7 c)))))))
def nB5 (c : Code) : Code := bl (sL (tl 2 (lp (bl (tl 3 (nB3 c))))))

theorem NIn.slotc {w wr : World} {M : Fam} {p : Nat} {P : PS} (h : NIn w p wr M P) {g3 s k : Nat} (b3 : M.b 3 = some g3) (hs : s < P.nS) (hk : k < 7) {v : Value} (hv : M.F 3 (s * 7 + k) = v) : wr.cell? ⟨g3, s * 7 + k, none⟩ = some v := by
  rw [h.rep.cell b3 (by rw [h.pm.nS]; show s * 7 + k < P.nS * 7; omega), hv]
/-- An edge is listed. -/
theorem NIn.pushout {w wr w1 w2 : World} {M : Fam} {p : Nat} {P : PS} (h : NIn w p wr M P) {t g3 : Nat} (b3 : M.b 3 = some g3) (ht : t < P.nS) (e : Int) {g k : Nat} (hR : Rep KP w2 (M.put (60 + 3 * t) (some g) (M.n (60 + 3 * t) + 1) k (ext (M.F (60 + 3 * t)) (M.n (60 + 3 * t) * 1) [.int .i64 e]))) (hG : Grew M w1 (M.put (60 + 3 * t) (some g) (M.n (60 + 3 * t) + 1) k (ext (M.F (60 + 3 * t)) (M.n (60 + 3 * t) * 1) [.int .i64 e])) w2) (hw : Grew Fam.nil w M w1) :
    NIn w p (w2.setCell ⟨g3, t * 7 + 2, none⟩ (.slice (some ⟨g, 0, none⟩) (M.n (60 + 3 * t) + 1) k)) ((M.put (60 + 3 * t) (some g) (M.n (60 + 3 * t) + 1) k (ext (M.F (60 + 3 * t)) (M.n (60 + 3 * t) * 1) [.int .i64 e])).set 3 (t * 7 + 2) (.slice (some ⟨g, 0, none⟩) (M.n (60 + 3 * t) + 1) k)) (P.pushOut t e) := by
  have b3' : (M.put (60 + 3 * t) (some g) (M.n (60 + 3 * t) + 1) k (ext (M.F (60 + 3 * t)) (M.n (60 + 3 * t) * 1) [.int .i64 e])).b 3 = some g3 := (put_b (by omega)).trans b3
  exact ⟨hR.set b3' _ _, h.pm.push_out ht e g k, (hw.trans hG).set ⟨3, b3'⟩ _ _ _ _, by rw [set_b, put_b (by omega)]; exact h.b11⟩

set_option maxRecDepth 40000 in
set_option maxHeartbeats 8000000 in
/-- One edge. -/
theorem np_edge (w : World) (N : Fam) (G : GR) (a0 : Option Addr) (k0 p i k : Nat) (ar : Option Addr) (kr : Nat) (hG : GM w N G a0 k0) (ok : G.Ok) (hi : i < G.n) (hk : k < G.d i) (har : ar = Option.map (fun g => (⟨g, 0, none⟩ : Addr)) (N.b (1 + i))) (hkr : kr = N.cap (1 + i)) (a : Act) (w' : World) (M : Fam) (P : PS) (hf : FL3 G a0 k0 p i ar kr a) (h87 : a.tmps.getD 87 undef = .int .i64 (k : Int)) (hN : NIn w p w' M P) (hP : NP G i k (i + 1) P) (Q : Exit → Act → World → Prop)
    (hC : ∀ (a : Act) (w' : World) (M : Fam) (P : PS), FL3 G a0 k0 p i ar kr a → a.tmps.getD 87 undef = .int .i64 (k : Int) → NIn w p w' M P → NP G i (k + 1) (i + 1) P → Q .normal a w') :
    Code.wp Try.prog (nB5 (Try.f26.body.getD .skip)) Q a w' := by
  obtain ⟨i3, hi3, hz30, hz31, hz32⟩ := info_parts Try.info3
  obtain ⟨gr, br, lr, xr⟩ := (hG.kept hN.grew).entry hi hk
  have hn := ok.n
  have hE := ok.E
  have har' : ar = some ⟨gr, 0, none⟩ := by rw [har, br]; rfl
  subst har'
  have lkr : G.d i ≤ kr := by rw [hkr]; exact lr
  have eE := G.fst_lt hi hk
  obtain ⟨e, he⟩ : ∃ e, G.fst i + k = e := ⟨_, rfl⟩
  rw [he] at eE
  have HE : Hid (G.fst i + k = e) := he
  have eP : e < P.nE := by rw [hP.nE]; exact eE
  obtain ⟨g0, b0⟩ := hN.rep.hasBlock (i := 0) (by rw [hN.pm.first.1, hP.nV]; omega)
  obtain ⟨g1, b1⟩ := hN.rep.hasBlock (i := 1) (by rw [hN.pm.fr.1]; omega)
  obtain ⟨g2, b2⟩ := hN.rep.hasBlock (i := 2) (by rw [hN.pm.to.1]; omega)
  have z0 := hN.pm.hdr_some hN.rep hN.b11 (show 0 < 11 by omega) b0
  have z1 := hN.pm.hdr_some hN.rep hN.b11 (show 1 < 11 by omega) b1
  have z2 := hN.pm.hdr_some hN.rep hN.b11 (show 2 < 11 by omega) b2
  rw [hN.pm.first.1, hP.nV] at z0
  rw [hN.pm.fr.1, hP.nE] at z1
  rw [hN.pm.to.1, hP.nE] at z2
  have l0 := hN.rep.le_cap 0
  have l1 := hN.rep.le_cap 1
  have l2 := hN.rep.le_cap 2
  rw [hN.pm.first.1, hP.nV] at l0
  rw [hN.pm.fr.1, hP.nE] at l1
  rw [hN.pm.to.1, hP.nE] at l2
  have x0 := hN.pm.first.cell hN.rep b0 rfl (show i < P.nV by rw [hP.nV]; omega)
  rw [hP.first i (by omega)] at x0
  have x1 := hN.pm.fr.cell hN.rep b1 rfl eP
  have x2 := hN.pm.to.cell hN.rep b2 rfl eP
  have f1 := hN.rep.frozen b1 e
  have f2 := hN.rep.frozen b2 e
  have d1 : p ≠ g1 := hN.ne hN.b11 b1 (by omega)
  have d2 : p ≠ g2 := hN.ne hN.b11 b2 (by omega)
  have d5 : g2 ≠ g1 := hN.ne b2 b1 (by omega)
  have hA : NIn w p ((w'.drew.setCell ⟨g1, e, none⟩ (.int .i64 (-1))).setCell ⟨g2, e, none⟩ (.int .i64 (-1))) _ (P.unmove e) := (hN.drew.setp (i := 1) b1 (hN.pm.set_fr e (-1))).setp (i := 2) b2 (hN.pm.unmove e)
  have HA : Hid (NIn w p ((w'.drew.setCell ⟨g1, e, none⟩ (.int .i64 (-1))).setCell ⟨g2, e, none⟩ (.int .i64 (-1))) _ (P.unmove e)) := hA
  have HP : Hid (NP G i k (i + 1) P) := hP
  have HC : Hid (∀ (a : Act) (w' : World) (M : Fam) (P : PS), FL3 G a0 k0 p i (some ⟨gr, 0, none⟩) kr a → a.tmps.getD 87 undef = .int .i64 (k : Int) → NIn w p w' M P → NP G i (k + 1) (i + 1) P → Q .normal a w') := hC
  have hfk : ((G.fst i : Nat) : Int) + (k : Int) = ((e : Nat) : Int) := by omega
  have hw1 : IntKind.i64.wrap (((G.fst i : Nat) : Int) + (k : Int)) = ((e : Nat) : Int) := by rw [IntKind.wrap_i64]; omega
  have hki : (k : Int) < ((G.d i : Nat) : Int) := by omega
  have hii : (i : Int) < (G.n : Int) + 1 := by omega
  have hee : ((e : Nat) : Int) < ((G.E : Nat) : Int) := by omega
  have B1 : Hid (M.b 1 = some g1) := b1
  have B2 : Hid (M.b 2 = some g2) := b2
  obtain ⟨y, rfl⟩ := litn3 hf.f2.sz hf.f2.df hf.f2.s0 hf.f2.s3 hf.f2.s7 hf.s8 hf.s10 hf.f2.s74 hf.f2.s75 hf.f2.s76 hf.s85 hf.s86 h87
  clear he hf h87 hN hA hC b0 b1 b2 har hkr lr br hG ok
  generalize M.cap 0 = q0 at *
  generalize M.cap 1 = q1 at *
  generalize M.cap 2 = q2 at *
  generalize P.fr e = fe at *
  generalize P.to e = te at *
  show Code.wp Try.prog (Code.seq _ (Code.seq _ (Code.seq _ (Code.seq _ (Code.cond (.tmp 115) (Code.seq _ _) Code.skip))))) Q _ w'
  refine wp_seq_k (fun K1 hK => ?_)
  have HK : Hid (∀ (a : Act) (w : World), _ → K1 a w) := hK
  clear hK
  go_wp2
  refine HK.out _ _ ?_
  clear HK K1
  refine wp_seq_k (fun K1 hK => ?_)
  have HK : Hid (∀ (a : Act) (w : World), _ → K1 a w) := hK
  clear hK
  go_wp2
  refine HK.out _ _ ?_
  clear HK K1
  refine wp_seq_k (fun K1 hK => ?_)
  have HK : Hid (∀ (a : Act) (w : World), _ → K1 a w) := hK
  clear hK
  have FK : Hid (∀ kk w'', C2 w'.drew (w'.drew.setCell ⟨g1, e, none⟩ (.int .i64 (-1))) ((w'.drew.setCell ⟨g1, e, none⟩ (.int .i64 (-1))).setCell ⟨g2, e, none⟩ (.int .i64 (-1))) kk w'' → w''.cell? ⟨p, 1, none⟩ = some (.slice (some ⟨g1, 0, none⟩) G.E q1) ∧ w''.cell? ⟨p, 2, none⟩ = some (.slice (some ⟨g2, 0, none⟩) G.E q2)) := by
    refine C2.all ⟨z1, z2⟩ ?_ ?_
    · rw [cell_ne d1, cell_ne d1]; exact ⟨z1, z2⟩
    · rw [cell_ne d2, cell_ne d2, cell_ne d1, cell_ne d1]; exact ⟨z1, z2⟩
  refine wp_region_stage (C2 w'.drew (w'.drew.setCell ⟨g1, e, none⟩ (.int .i64 (-1))) ((w'.drew.setCell ⟨g1, e, none⟩ (.int .i64 (-1))).setCell ⟨g2, e, none⟩ (.int .i64 (-1)))) [11, 13] (fun i => 2) (by kernel_rfl) (by kernel_rfl) (rfl) ?_
  refine wpStage_read rfl rfl ?_
  apply Exists.intro
  refine ⟨fun kk w'' hk hw => ?_, ?_⟩
  · go_simp
    first | rfl | exact ⟨rfl, hw⟩
  go_simp
  refine wpStage_read rfl rfl ?_
  apply Exists.intro
  refine ⟨fun kk w'' hk hw => ?_, ?_⟩
  · go_simp
    first | rfl | exact ⟨rfl, hw⟩
  go_simp
  refine wpStage_read rfl rfl ?_
  apply Exists.intro
  refine ⟨fun kk w'' hk hw => ?_, ?_⟩
  · go_simp
    first | rfl | exact ⟨rfl, hw⟩
  go_simp
  refine wpStage_read rfl rfl ?_
  apply Exists.intro
  refine ⟨fun kk w'' hk hw => ?_, ?_⟩
  · obtain ⟨y1, y2⟩ := FK.out kk w'' hw
    go_simp
    first | rfl | exact ⟨rfl, hw⟩
  go_simp
  refine wpStage_read rfl rfl ?_
  apply Exists.intro
  refine ⟨fun kk w'' hk hw => ?_, ?_⟩
  · go_simp
    first | rfl | exact ⟨rfl, hw⟩
  go_simp
  refine wpStage_read rfl rfl ?_
  apply Exists.intro
  refine ⟨fun kk w'' hk hw => ?_, ?_⟩
  · go_simp
    first | rfl | exact ⟨rfl, hw⟩
  go_simp
  refine wpStage_read rfl rfl ?_
  apply Exists.intro
  refine ⟨fun kk w'' hk hw => ?_, ?_⟩
  · go_simp
    first | rfl | exact ⟨rfl, hw⟩
  go_simp
  refine wpStage_read rfl rfl ?_
  apply Exists.intro
  refine ⟨fun kk w'' hk hw => ?_, ?_⟩
  · go_simp
    first | rfl | exact ⟨rfl, hw⟩
  go_simp
  refine wpStage_read rfl rfl ?_
  apply Exists.intro
  refine ⟨fun kk w'' hk hw => ?_, ?_⟩
  · obtain ⟨y1, y2⟩ := FK.out kk w'' hw
    go_simp
    first | rfl | exact ⟨rfl, hw⟩
  go_simp
  refine wpStage_read rfl rfl ?_
  apply Exists.intro
  refine ⟨fun kk w'' hk hw => ?_, ?_⟩
  · go_simp
    first | rfl | exact ⟨rfl, hw⟩
  go_simp
  refine wpStage_read rfl rfl ?_
  apply Exists.intro
  refine ⟨fun kk w'' hk hw => ?_, ?_⟩
  · go_simp
    first | rfl | exact ⟨rfl, hw⟩
  go_simp
  refine wpStage_move rfl rfl ?_
  apply Exists.intro
  refine ⟨fun w'' hw => ?_, ?_⟩
  · have hw : w'' = w'.drew := hw
    subst hw
    go_simp
    first | rfl | exact ⟨rfl, rfl⟩
  go_simp
  refine wpStage_read rfl rfl ?_
  apply Exists.intro
  refine ⟨fun kk w'' hk hw => ?_, ?_⟩
  · go_simp
    first | rfl | exact ⟨rfl, hw⟩
  go_simp
  refine wpStage_move rfl rfl ?_
  apply Exists.intro
  refine ⟨fun w'' hw => ?_, ?_⟩
  · have hw : w'' = (w'.drew.setCell ⟨g1, e, none⟩ (.int .i64 (-1))) := hw
    subst hw
    go_simp
    first | rfl | exact ⟨rfl, rfl⟩
  go_simp
  intro we hw0
  have hw : we = ((w'.drew.setCell ⟨g1, e, none⟩ (.int .i64 (-1))).setCell ⟨g2, e, none⟩ (.int .i64 (-1))) := hw0
  clear hw0
  refine HK.out _ _ ?_
  clear HK K1 FK
  rw [← hw] at HA
  clear hw x0 x1 x2 f1 f2 z0 z1 z2 xr
  generalize hMb : (M.set 1 e (.int .i64 (-1))).set 2 e (.int .i64 (-1)) = Mb at HA
  have B1' : Hid (Mb.b 1 = some g1) := by rw [Hid, ← hMb]; exact B1.out
  have B2' : Hid (Mb.b 2 = some g2) := by rw [Hid, ← hMb]; exact B2.out
  clear hMb B1 B2
  refine wp_seq_k (fun K1 hK => ?_)
  have HK : Hid (∀ (a : Act) (w : World), _ → K1 a w) := hK
  clear hK
  by_cases ht : G.t i k = i
  · have fin : Hid (NP G i (k + 1) (i + 1) (P.unmove e)) := by
      have := HP.out.self hk ht
      rw [HE.out] at this
      exact this
    rw [ht]
    go_wp2
    refine HK.out _ _ (wp_cond_false (by kernel_rfl) (wp_skip ?_))
    exact HC.out _ _ _ _ ⟨⟨by kernel_rfl, by kernel_rfl, by kernel_rfl, by kernel_rfl, by kernel_rfl, by kernel_rfl, by kernel_rfl, by kernel_rfl⟩, by kernel_rfl, by kernel_rfl, by kernel_rfl, by kernel_rfl⟩ (by kernel_rfl) HA.out fin.out
  · have hti : ¬ ((G.t i k : Nat) : Int) = (i : Int) := by omega
    have hne1 : (((G.t i k : Nat) : Int) == (i : Int)) = false := by simpa using hti
    have hne2 : (((G.t i k : Nat) : Int) != (i : Int)) = true := by simpa using hti
    clear hti
    go_wp2
    refine HK.out _ _ (wp_cond_true (by kernel_rfl) ?_)
    clear HK K1
    have hN := HA.out
    have z1 := hN.pm.hdr_some hN.rep hN.b11 (show 1 < 11 by omega) B1'.out
    have z2 := hN.pm.hdr_some hN.rep hN.b11 (show 2 < 11 by omega) B2'.out
    have nE' : (P.unmove e).nE = G.E := HP.out.nE
    rw [hN.pm.fr.1, nE'] at z1
    rw [hN.pm.to.1, nE'] at z2
    have l1 := hN.rep.le_cap 1
    have l2 := hN.rep.le_cap 2
    rw [hN.pm.fr.1, nE'] at l1
    rw [hN.pm.to.1, nE'] at l2
    have x1 := hN.pm.fr.cell hN.rep B1'.out rfl (show e < (P.unmove e).nE by rw [nE']; exact eE)
    have x2 := hN.pm.to.cell hN.rep B2'.out rfl (show e < (P.unmove e).nE by rw [nE']; exact eE)
    have f1 := hN.rep.frozen B1'.out e
    have f2 := hN.rep.frozen B2'.out e
    have hB : NIn w p ((we.drew.setCell ⟨g1, e, none⟩ (.int .i64 (i : Int))).setCell ⟨g2, e, none⟩ (.int .i64 ((G.t i k : Nat) : Int))) _ (P.edge e ((i : Nat) : Int) ((G.t i k : Nat) : Int)) := (hN.drew.setp (i := 1) B1'.out (hN.pm.set_fr e ((i : Nat) : Int))).setp (i := 2) B2'.out (hN.pm.move e ((i : Nat) : Int) ((G.t i k : Nat) : Int))
    have HB : Hid (∃ M3, NIn w p ((we.drew.setCell ⟨g1, e, none⟩ (.int .i64 (i : Int))).setCell ⟨g2, e, none⟩ (.int .i64 ((G.t i k : Nat) : Int))) M3 (P.edge e ((i : Nat) : Int) ((G.t i k : Nat) : Int))) := ⟨_, hB⟩
    clear hN hB HA B1' B2' nE'
    generalize Mb.cap 1 = q1' at *
    generalize Mb.cap 2 = q2' at *
    generalize (P.unmove e).fr e = fe' at *
    generalize (P.unmove e).to e = te' at *
    refine wp_seq_k (fun K1 hK => ?_)
    have HK : Hid (∀ (a : Act) (w : World), _ → K1 a w) := hK
    clear hK
    have FK : Hid (∀ kk w'', C2 we.drew (we.drew.setCell ⟨g1, e, none⟩ (.int .i64 (i : Int))) ((we.drew.setCell ⟨g1, e, none⟩ (.int .i64 (i : Int))).setCell ⟨g2, e, none⟩ (.int .i64 ((G.t i k : Nat) : Int))) kk w'' → w''.cell? ⟨p, 1, none⟩ = some (.slice (some ⟨g1, 0, none⟩) G.E q1') ∧ w''.cell? ⟨p, 2, none⟩ = some (.slice (some ⟨g2, 0, none⟩) G.E q2')) := by
      refine C2.all ⟨z1, z2⟩ ?_ ?_
      · rw [cell_ne d1, cell_ne d1]; exact ⟨z1, z2⟩
      · rw [cell_ne d2, cell_ne d2, cell_ne d1, cell_ne d1]; exact ⟨z1, z2⟩
    refine wp_region_stage (C2 we.drew (we.drew.setCell ⟨g1, e, none⟩ (.int .i64 (i : Int))) ((we.drew.setCell ⟨g1, e, none⟩ (.int .i64 (i : Int))).setCell ⟨g2, e, none⟩ (.int .i64 ((G.t i k : Nat) : Int)))) [13, 15] (fun i => 2) (by kernel_rfl) (by kernel_rfl) (rfl) ?_
    refine wpStage_read rfl rfl ?_
    apply Exists.intro
    refine ⟨fun kk w'' hk hw => ?_, ?_⟩
    · go_simp
      first | rfl | exact ⟨rfl, hw⟩
    go_simp
    refine wpStage_read rfl rfl ?_
    apply Exists.intro
    refine ⟨fun kk w'' hk hw => ?_, ?_⟩
    · go_simp
      first | rfl | exact ⟨rfl, hw⟩
    go_simp
    refine wpStage_read rfl rfl ?_
    apply Exists.intro
    refine ⟨fun kk w'' hk hw => ?_, ?_⟩
    · go_simp
      first | rfl | exact ⟨rfl, hw⟩
    go_simp
    refine wpStage_read rfl rfl ?_
    apply Exists.intro
    refine ⟨fun kk w'' hk hw => ?_, ?_⟩
    · obtain ⟨y1, y2⟩ := FK.out kk w'' hw
      go_simp
      first | rfl | exact ⟨rfl, hw⟩
    go_simp
    refine wpStage_read rfl rfl ?_
    apply Exists.intro
    refine ⟨fun kk w'' hk hw => ?_, ?_⟩
    · go_simp
      first | rfl | exact ⟨rfl, hw⟩
    go_simp
    refine wpStage_read rfl rfl ?_
    apply Exists.intro
    refine ⟨fun kk w'' hk hw => ?_, ?_⟩
    · go_simp
      first | rfl | exact ⟨rfl, hw⟩
    go_simp
    refine wpStage_read rfl rfl ?_
    apply Exists.intro
    refine ⟨fun kk w'' hk hw => ?_, ?_⟩
    · go_simp
      first | rfl | exact ⟨rfl, hw⟩
    go_simp
    refine wpStage_read rfl rfl ?_
    apply Exists.intro
    refine ⟨fun kk w'' hk hw => ?_, ?_⟩
    · go_simp
      first | rfl | exact ⟨rfl, hw⟩
    go_simp
    refine wpStage_read rfl rfl ?_
    apply Exists.intro
    refine ⟨fun kk w'' hk hw => ?_, ?_⟩
    · obtain ⟨y1, y2⟩ := FK.out kk w'' hw
      go_simp
      first | rfl | exact ⟨rfl, hw⟩
    go_simp
    refine wpStage_read rfl rfl ?_
    apply Exists.intro
    refine ⟨fun kk w'' hk hw => ?_, ?_⟩
    · go_simp
      first | rfl | exact ⟨rfl, hw⟩
    go_simp
    refine wpStage_read rfl rfl ?_
    apply Exists.intro
    refine ⟨fun kk w'' hk hw => ?_, ?_⟩
    · go_simp
      first | rfl | exact ⟨rfl, hw⟩
    go_simp
    refine wpStage_read rfl rfl ?_
    apply Exists.intro
    refine ⟨fun kk w'' hk hw => ?_, ?_⟩
    · go_simp
      first | rfl | exact ⟨rfl, hw⟩
    go_simp
    refine wpStage_read rfl rfl ?_
    apply Exists.intro
    refine ⟨fun kk w'' hk hw => ?_, ?_⟩
    · go_simp
      first | rfl | exact ⟨rfl, hw⟩
    go_simp
    refine wpStage_move rfl rfl ?_
    apply Exists.intro
    refine ⟨fun w'' hw => ?_, ?_⟩
    · have hw : w'' = we.drew := hw
      subst hw
      go_simp
      first | rfl | exact ⟨rfl, rfl⟩
    go_simp
    refine wpStage_read rfl rfl ?_
    apply Exists.intro
    refine ⟨fun kk w'' hk hw => ?_, ?_⟩
    · go_simp
      first | rfl | exact ⟨rfl, hw⟩
    go_simp
    refine wpStage_move rfl rfl ?_
    apply Exists.intro
    refine ⟨fun w'' hw => ?_, ?_⟩
    · have hw : w'' = (we.drew.setCell ⟨g1, e, none⟩ (.int .i64 (i : Int))) := hw
      subst hw
      go_simp
      first | rfl | exact ⟨rfl, rfl⟩
    go_simp
    intro wc hw0
    have hw : wc = ((we.drew.setCell ⟨g1, e, none⟩ (.int .i64 (i : Int))).setCell ⟨g2, e, none⟩ (.int .i64 ((G.t i k : Nat) : Int))) := hw0
    clear hw0
    refine HK.out _ _ ?_
    clear HK K1 FK
    rw [← hw] at HB
    clear hw x1 x2 f1 f2 z1 z2 d1 d2 d5
    obtain ⟨M2, hN⟩ := HB.out
    clear HB
    have nS' : (P.edge e ((i : Nat) : Int) ((G.t i k : Nat) : Int)).nS = i + 1 := HP.out.nS
    have uS : i < (P.edge e ((i : Nat) : Int) ((G.t i k : Nat) : Int)).nS := by rw [nS']; omega
    obtain ⟨g3, b3⟩ := hN.rep.hasBlock (i := 3) (by rw [hN.pm.nS]; omega)
    have z4 := hN.pm.hdr_some hN.rep hN.b11 (show 3 < 11 by omega) b3
    rw [hN.pm.nS, nS'] at z4
    have l3 := hN.rep.le_cap 3
    rw [hN.pm.nS, nS'] at l3
    have z5 := hN.slotc b3 uS (show 2 < 7 by omega) (hN.pm.outh i uS)
    have hlen : M2.n (60 + 3 * i) < 1000000 := by
      rw [(hN.pm.out i uS).1]
      show P.on i < _
      rcases Nat.eq_zero_or_pos (P.on i) with h0 | h0
      · omega
      · have key : ∀ j, j < P.on i → (j : Int) ≤ P.out i j := by
          intro j
          induction j with
          | zero => intro hj; obtain ⟨q, _, _, _, e⟩ := HP.out.o1 i 0 (by omega) hj; rw [e]; omega
          | succ j ih =>
            intro hj
            have h1 := ih (by omega)
            have h2 := HP.out.o3 i j (j + 1) (by omega) (by omega) hj
            omega
        obtain ⟨q, q1, _, _, e⟩ := HP.out.o1 i (P.on i - 1) (by omega) (by omega)
        have h1 := key (P.on i - 1) (by omega)
        rw [e] at h1
        have h2 := G.fst_lt hi q1
        omega
    obtain ⟨gn, kn, wa, hr, hRa, hGa⟩ := run_append_row (P := Try.prog) (hN.rep.alloc (.cells #[.int .i64 ((e : Nat) : Int)] 3)).drew (60 + 3 * i) 26 26 3 i3 (.int .i64 0) 1 8 (KP_out i) Try.underlying26 hi3 hz30 hz31 hz32 rfl (by decide) ⟨wc.heap.size, 0, none⟩ 1 [.int .i64 ((e : Nat) : Int)] rfl (news1' wc _ _ _ rfl) (by simp [Value.oneCell']) (by omega) (by decide)
    have fin : Hid (∃ M4, NIn w p (wa.setCell ⟨g3, i * 7 + 2, none⟩ (.slice (some ⟨gn, 0, none⟩) (M2.n (60 + 3 * i) + 1) kn)) M4 ((P.edge e ((i : Nat) : Int) ((G.t i k : Nat) : Int)).pushOut i ((e : Nat) : Int))) := ⟨_, hN.pushout b3 uS _ hRa hGa (hN.grew.alloc _).drew⟩
    have ba : (M2.put (60 + 3 * i) (some gn) (M2.n (60 + 3 * i) + 1) kn (ext (M2.F (60 + 3 * i)) (M2.n (60 + 3 * i) * 1) [.int .i64 ((e : Nat) : Int)])).b 3 = some g3 := (put_b (by omega)).trans b3
    have v2 := pcell hRa ((put_b (by omega)).trans hN.b11) ((put_n (by omega)).trans hN.pm.p) (show 3 < 12 by omega) ((congrFun (put_F (by omega)) 3).trans ((hN.pm.hd 3 (by omega)).trans (val_some b3)))
    rw [hN.pm.nS, nS'] at v2
    have v3 := hRa.cell ba (j := i * 7 + 2) (by rw [put_n (by omega), hN.pm.nS, nS']; show i * 7 + 2 < (i + 1) * 7; omega)
    have v4 := hRa.frozen ba (i * 7 + 2)
    have s3 := hN.rep.lt b3
    have s11 := hN.rep.lt hN.b11
    unfold Fam.val at z5 hr
    have HR : Hid ((Builtin.append_ #[26, 26] 26 #[.slice (Option.map (fun g => (⟨g, 0, none⟩ : Addr)) (M2.b (60 + 3 * i))) (M2.n (60 + 3 * i)) (M2.cap (60 + 3 * i)), .slice (some ⟨wc.heap.size, 0, none⟩) 1 1]).run Try.prog ((wc.alloc (.cells #[.int .i64 ((e : Nat) : Int)] 3)).drew) = .ok (.slice (some ⟨gn, 0, none⟩) (M2.n (60 + 3 * i) + 1) kn) wa) := hr
    have FINP : Hid (NP G i (k + 1) (i + 1) ((P.edge e ((i : Nat) : Int) ((G.t i k : Nat) : Int)).pushOut i ((e : Nat) : Int))) := by
      have := HP.out.other hk ht
      rw [HE.out] at this
      exact this
    clear hN hRa hGa b3 ba hr uS nS'
    generalize (M2.put (60 + 3 * i) (some gn) (M2.n (60 + 3 * i) + 1) kn (ext (M2.F (60 + 3 * i)) (M2.n (60 + 3 * i) * 1) [.int .i64 ((e : Nat) : Int)])).F 3 (i * 7 + 2) = vv at *
    generalize Option.map (fun g => (⟨g, 0, none⟩ : Addr)) (M2.b (60 + 3 * i)) = af at *
    generalize M2.n (60 + 3 * i) = nf at *
    generalize M2.cap (60 + 3 * i) = kf at *
    generalize M2.cap 3 = k3' at *
    have FK : Hid (∀ kk w'', kk ≤ 2 → C3 wc.drew ((wc.alloc (.cells #[.int .i64 ((e : Nat) : Int)] 3)).drew) wa (wa.setCell ⟨g3, i * 7 + 2, none⟩ (.slice (some ⟨gn, 0, none⟩) (nf + 1) kn)) kk w'' → w''.cell? ⟨p, 3, none⟩ = some (.slice (some ⟨g3, 0, none⟩) (i + 1) k3')) := by
      intro kk w'' hkk hw
      match kk, hkk with
      | 0, _ =>
        have hw : w'' = wc.drew := hw
        subst hw
        exact z4
      | 1, _ =>
        have hw : w'' = ((wc.alloc (.cells #[.int .i64 ((e : Nat) : Int)] 3)).drew) := hw
        subst hw
        rw [cell_alloc_drew s11]
        exact z4
      | 2, _ =>
        have hw : w'' = wa := hw
        subst hw
        exact v2
    have FM : Hid (∀ kk w'', kk ≤ 1 → C3 wc.drew ((wc.alloc (.cells #[.int .i64 ((e : Nat) : Int)] 3)).drew) wa (wa.setCell ⟨g3, i * 7 + 2, none⟩ (.slice (some ⟨gn, 0, none⟩) (nf + 1) kn)) kk w'' → w''.cell? ⟨g3, i * 7 + 2, none⟩ = some (.slice af nf kf)) := by
      intro kk w'' hkk hw
      match kk, hkk with
      | 0, _ =>
        have hw : w'' = wc.drew := hw
        subst hw
        exact z5
      | 1, _ =>
        have hw : w'' = ((wc.alloc (.cells #[.int .i64 ((e : Nat) : Int)] 3)).drew) := hw
        subst hw
        rw [cell_alloc_drew s3]
        exact z5
    have hi1 : (i : Int) < (i : Int) + 1 := by omega
    refine wp_region_stage (C3 wc.drew ((wc.alloc (.cells #[.int .i64 ((e : Nat) : Int)] 3)).drew) wa (wa.setCell ⟨g3, i * 7 + 2, none⟩ (.slice (some ⟨gn, 0, none⟩) (nf + 1) kn))) [14, 15, 18] (fun i => if i < 5 then 2 else if i < 13 then 1 else if i < 14 then 0 else 2) (by kernel_rfl) (by kernel_rfl) (rfl) ?_
    refine wpStage_read rfl rfl ?_
    apply Exists.intro
    refine ⟨fun kk w'' hk hw => ?_, ?_⟩
    · go_simp
      first | rfl | exact ⟨rfl, hw⟩
    go_simp
    refine wpStage_read rfl rfl ?_
    apply Exists.intro
    refine ⟨fun kk w'' hk hw => ?_, ?_⟩
    · go_simp
      first | rfl | exact ⟨rfl, hw⟩
    go_simp
    refine wpStage_read rfl rfl ?_
    apply Exists.intro
    refine ⟨fun kk w'' hk hw => ?_, ?_⟩
    · go_simp
      first | rfl | exact ⟨rfl, hw⟩
    go_simp
    refine wpStage_read rfl rfl ?_
    apply Exists.intro
    refine ⟨fun kk w'' hk hw => ?_, ?_⟩
    · have y1 := FK.out kk w'' hk hw
      go_simp
      first | rfl | exact ⟨rfl, hw⟩
    go_simp
    refine wpStage_read rfl rfl ?_
    apply Exists.intro
    refine ⟨fun kk w'' hk hw => ?_, ?_⟩
    · go_simp
      first | rfl | exact ⟨rfl, hw⟩
    go_simp
    refine wpStage_read rfl rfl ?_
    apply Exists.intro
    refine ⟨fun kk w'' hk hw => ?_, ?_⟩
    · go_simp
      first | rfl | exact ⟨rfl, hw⟩
    go_simp
    refine wpStage_read rfl rfl ?_
    apply Exists.intro
    refine ⟨fun kk w'' hk hw => ?_, ?_⟩
    · go_simp
      first | rfl | exact ⟨rfl, hw⟩
    go_simp
    refine wpStage_read rfl rfl ?_
    apply Exists.intro
    refine ⟨fun kk w'' hk hw => ?_, ?_⟩
    · go_simp
      first | rfl | exact ⟨rfl, hw⟩
    go_simp
    refine wpStage_read rfl rfl ?_
    apply Exists.intro
    refine ⟨fun kk w'' hk hw => ?_, ?_⟩
    · have y1 := FK.out kk w'' (Nat.le_succ_of_le hk) hw
      go_simp
      first | rfl | exact ⟨rfl, hw⟩
    go_simp
    refine wpStage_read rfl rfl ?_
    apply Exists.intro
    refine ⟨fun kk w'' hk hw => ?_, ?_⟩
    · go_simp
      first | rfl | exact ⟨rfl, hw⟩
    go_simp
    refine wpStage_read rfl rfl ?_
    apply Exists.intro
    refine ⟨fun kk w'' hk hw => ?_, ?_⟩
    · go_simp
      first | rfl | exact ⟨rfl, hw⟩
    go_simp
    refine wpStage_read rfl rfl ?_
    apply Exists.intro
    refine ⟨fun kk w'' hk hw => ?_, ?_⟩
    · go_simp
      first | rfl | exact ⟨rfl, hw⟩
    go_simp
    refine wpStage_read rfl rfl ?_
    apply Exists.intro
    refine ⟨fun kk w'' hk hw => ?_, ?_⟩
    · have y2 := FM.out kk w'' hk hw
      go_simp
      first | rfl | exact ⟨rfl, hw⟩
    go_simp
    refine wpStage_read rfl rfl ?_
    apply Exists.intro
    refine ⟨fun kk w'' hk hw => ?_, ?_⟩
    · go_simp
      first | rfl | exact ⟨rfl, hw⟩
    go_simp
    refine wpStage_move rfl rfl ?_
    apply Exists.intro
    refine ⟨fun w'' hw => ?_, ?_⟩
    · have hw : w'' = wc.drew := hw
      subst hw
      go_simp
      first | rfl | exact ⟨rfl, rfl⟩
    go_simp
    refine wpStage_move rfl rfl ?_
    apply Exists.intro
    refine ⟨fun w'' hw => ?_, ?_⟩
    · have hw : w'' = ((wc.alloc (.cells #[.int .i64 ((e : Nat) : Int)] 3)).drew) := hw
      subst hw
      exact yTo_append (.tmp 142) (.tmp 144) 26 rfl (by simp [Act.eval]) (by simp [Act.eval]) HR.out rfl
    go_simp
    refine wpStage_read rfl rfl ?_
    apply Exists.intro
    refine ⟨fun kk w'' hk hw => ?_, ?_⟩
    · go_simp
      first | rfl | exact ⟨rfl, hw⟩
    go_simp
    refine wpStage_read rfl rfl ?_
    apply Exists.intro
    refine ⟨fun kk w'' hk hw => ?_, ?_⟩
    · go_simp
      first | rfl | exact ⟨rfl, hw⟩
    go_simp
    refine wpStage_move rfl rfl ?_
    apply Exists.intro
    refine ⟨fun w'' hw => ?_, ?_⟩
    · have hw : w'' = wa := hw
      subst hw
      go_simp
      first | rfl | exact ⟨rfl, rfl⟩
    go_simp
    intro wd hw0
    have hw : wd = (wa.setCell ⟨g3, i * 7 + 2, none⟩ (.slice (some ⟨gn, 0, none⟩) (nf + 1) kn)) := hw0
    clear hw0
    rw [← hw] at fin
    obtain ⟨M4, hfin⟩ := fin.out
    exact HC.out _ _ _ _ ⟨⟨by kernel_rfl, by kernel_rfl, by kernel_rfl, by kernel_rfl, by kernel_rfl, by kernel_rfl, by kernel_rfl, by kernel_rfl⟩, by kernel_rfl, by kernel_rfl, by kernel_rfl, by kernel_rfl⟩ (by kernel_rfl) hfin FINP.out
end Go.Proofs.Qxb6602148a
