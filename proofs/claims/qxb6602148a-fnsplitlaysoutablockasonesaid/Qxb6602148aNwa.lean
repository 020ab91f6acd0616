import Derived.Test.Qxb6602148aNg
import Derived.Test.Qxb6602148aPM3
attribute [local go_sem] Go.Proofs.Qxb6602148a.yTo Go.Proofs.Qxb6602148a.yUpon
namespace Go.Proofs.Qxb6602148a
open Go.RowKit
set_option linter.unusedVariables false
set_option linter.unusedSimpArgs false

set_option maxRecDepth 40000 in
theorem arr_154 (arr : Array Value) (h : arr.size = 154) : ∃ y : Nat → Value, arr = #[y 0, y 1, y 2, y 3, y 4, y 5, y 6, y 7, y 8, y 9, y 10, y 11, y 12, y 13, y 14, y 15, y 16, y 17, y 18, y 19, y 20, y 21, y 22, y 23, y 24, y 25, y 26, y 27, y 28, y 29, y 30, y 31, y 32, y 33, y 34, y 35, y 36, y 37, y 38, y 39, y 40, y 41, y 42, y 43, y 44, y 45, y 46, y 47, y 48, y 49, y 50, y 51, y 52, y 53, y 54, y 55, y 56, y 57, y 58, y 59, y 60, y 61, y 62, y 63, y 64, y 65, y 66, y 67, y 68, y 69, y 70, y 71, y 72, y 73, y 74, y 75, y 76, y 77, y 78, y 79, y 80, y 81, y 82, y 83, y 84, y 85, y 86, y 87, y 88, y 89, y 90, y 91, y 92, y 93, y 94, y 95, y 96, y 97, y 98, y 99, y 100, y 101, y 102, y 103, y 104, y 105, y 106, y 107, y 108, y 109, y 110, y 111, y 112, y 113, y 114, y 115, y 116, y 117, y 118, y 119, y 120, y 121, y 122, y 123, y 124, y 125, y 126, y 127, y 128, y 129, y 130, y 131, y 132, y 133, y 134, y 135, y 136, y 137, y 138, y 139, y 140, y 141, y 142, y 143, y 144, y 145, y 146, y 147, y 148, y 149, y 150, y 151, y 152, y 153] ∧ ∀ i, y i = arr.getD i undef := by
  refine ⟨fun i => arr.getD i undef, ?_, fun _ => rfl⟩
  exact (arr_map arr 154 h undef).trans (by kernel_rfl)

structure FN (v0 : Value) (p : Nat) (a : Act) : Prop where
  sz : a.tmps.size = 154
  df : a.defers = []
  s0 : a.tmps.getD 0 undef = v0
  s3 : a.tmps.getD 3 undef = .pointer (some ⟨p, 0, none⟩)
set_option maxRecDepth 40000 in
theorem litn {a : Act} {u0 u3 : Value} (hs : a.tmps.size = 154) (hd : a.defers = []) (h0 : a.tmps.getD 0 undef = u0) (h3 : a.tmps.getD 3 undef = u3) : ∃ y : Nat → Value, a = { tmps := #[u0, y 1, y 2, u3, y 4, y 5, y 6, y 7, y 8, y 9, y 10, y 11, y 12, y 13, y 14, y 15, y 16, y 17, y 18, y 19, y 20, y 21, y 22, y 23, y 24, y 25, y 26, y 27, y 28, y 29, y 30, y 31, y 32, y 33, y 34, y 35, y 36, y 37, y 38, y 39, y 40, y 41, y 42, y 43, y 44, y 45, y 46, y 47, y 48, y 49, y 50, y 51, y 52, y 53, y 54, y 55, y 56, y 57, y 58, y 59, y 60, y 61, y 62, y 63, y 64, y 65, y 66, y 67, y 68, y 69, y 70, y 71, y 72, y 73, y 74, y 75, y 76, y 77, y 78, y 79, y 80, y 81, y 82, y 83, y 84, y 85, y 86, y 87, y 88, y 89, y 90, y 91, y 92, y 93, y 94, y 95, y 96, y 97, y 98, y 99, y 100, y 101, y 102, y 103, y 104, y 105, y 106, y 107, y 108, y 109, y 110, y 111, y 112, y 113, y 114, y 115, y 116, y 117, y 118, y 119, y 120, y 121, y 122, y 123, y 124, y 125, y 126, y 127, y 128, y 129, y 130, y 131, y 132, y 133, y 134, y 135, y 136, y 137, y 138, y 139, y 140, y 141, y 142, y 143, y 144, y 145, y 146, y 147, y 148, y 149, y 150, y 151, y 152, y 153], defers := [] } := by
  obtain ⟨tmps, defers⟩ := a
  have yd : defers = [] := hd
  subst yd
  obtain ⟨y, hy, hi⟩ := arr_154 tmps hs
  have e0 := (hi 0).trans h0
  have e3 := (hi 3).trans h3
  rw [e0, e3] at hy
  exact ⟨y, congrArg (fun t => (⟨t, []⟩ : Act)) hy⟩
set_option maxRecDepth 40000 in
theorem litn1 {a : Act} {u0 u3 u20 u21 u22 : Value} (hs : a.tmps.size = 154) (hd : a.defers = []) (h0 : a.tmps.getD 0 undef = u0) (h3 : a.tmps.getD 3 undef = u3) (h20 : a.tmps.getD 20 undef = u20) (h21 : a.tmps.getD 21 undef = u21) (h22 : a.tmps.getD 22 undef = u22) : ∃ y : Nat → Value, a = { tmps := #[u0, y 1, y 2, u3, y 4, y 5, y 6, y 7, y 8, y 9, y 10, y 11, y 12, y 13, y 14, y 15, y 16, y 17, y 18, y 19, u20, u21, u22, y 23, y 24, y 25, y 26, y 27, y 28, y 29, y 30, y 31, y 32, y 33, y 34, y 35, y 36, y 37, y 38, y 39, y 40, y 41, y 42, y 43, y 44, y 45, y 46, y 47, y 48, y 49, y 50, y 51, y 52, y 53, y 54, y 55, y 56, y 57, y 58, y 59, y 60, y 61, y 62, y 63, y 64, y 65, y 66, y 67, y 68, y 69, y 70, y 71, y 72, y 73, y 74, y 75, y 76, y 77, y 78, y 79, y 80, y 81, y 82, y 83, y 84, y 85, y 86, y 87, y 88, y 89, y 90, y 91, y 92, y 93, y 94, y 95, y 96, y 97, y 98, y 99, y 100, y 101, y 102, y 103, y 104, y 105, y 106, y 107, y 108, y 109, y 110, y 111, y 112, y 113, y 114, y 115, y 116, y 117, y 118, y 119, y 120, y 121, y 122, y 123, y 124, y 125, y 126, y 127, y 128, y 129, y 130, y 131, y 132, y 133, y 134, y 135, y 136, y 137, y 138, y 139, y 140, y 141, y 142, y 143, y 144, y 145, y 146, y 147, y 148, y 149, y 150, y 151, y 152, y 153], defers := [] } := by
  obtain ⟨tmps, defers⟩ := a
  have yd : defers = [] := hd
  subst yd
  obtain ⟨y, hy, hi⟩ := arr_154 tmps hs
  have e0 := (hi 0).trans h0
  have e3 := (hi 3).trans h3
  have e20 := (hi 20).trans h20
  have e21 := (hi 21).trans h21
  have e22 := (hi 22).trans h22
  rw [e0, e3, e20, e21, e22] at hy
  exact ⟨y, congrArg (fun t => (⟨t, []⟩ : Act)) hy⟩

/-- 'first', up to node i. -/
def P01 (G : GR) (i : Nat) : PS := (P00 G.n).clr0 (fun u => if u ≤ i then ((G.fst u : Nat) : Int) else 0)

set_option maxRecDepth 40000 in
set_option maxHeartbeats 8000000 in
/-- Regions 0 and 1. -/
theorem np_1 (w : World) (n : Nat) (a0 : Option Addr) (k0 : Nat) (hn : n ≤ 4096) (y : Nat → Value) (tail : Code) (Z : Nat → World → Prop)
    (hT : ∀ (a : Act) (w' : World) (p : Nat) (M : Fam), FN (.slice a0 n k0) p a → NIn w p w' M (P00 n) → Code.wp Try.prog tail (bodyPost Try.prog Try.f26 fun e w' => ∃ p, e = .returned (.pointer (some ⟨p, 0, none⟩)) ∧ Z p w') a w') :
    Code.wp Try.prog (rt 2 (Try.f26.body.getD .skip) tail) (bodyPost Try.prog Try.f26 fun e w' => ∃ p, e = .returned (.pointer (some ⟨p, 0, none⟩)) ∧ Z p w') { tmps := #[.slice a0 n k0, y 1, y 2, y 3, y 4, y 5, y 6, y 7, y 8, y 9, y 10, y 11, y 12, y 13, y 14, y 15, y 16, y 17, y 18, y 19, y 20, y 21, y 22, y 23, y 24, y 25, y 26, y 27, y 28, y 29, y 30, y 31, y 32, y 33, y 34, y 35, y 36, y 37, y 38, y 39, y 40, y 41, y 42, y 43, y 44, y 45, y 46, y 47, y 48, y 49, y 50, y 51, y 52, y 53, y 54, y 55, y 56, y 57, y 58, y 59, y 60, y 61, y 62, y 63, y 64, y 65, y 66, y 67, y 68, y 69, y 70, y 71, y 72, y 73, y 74, y 75, y 76, y 77, y 78, y 79, y 80, y 81, y 82, y 83, y 84, y 85, y 86, y 87, y 88, y 89, y 90, y 91, y 92, y 93, y 94, y 95, y 96, y 97, y 98, y 99, y 100, y 101, y 102, y 103, y 104, y 105, y 106, y 107, y 108, y 109, y 110, y 111, y 112, y 113, y 114, y 115, y 116, y 117, y 118, y 119, y 120, y 121, y 122, y 123, y 124, y 125, y 126, y 127, y 128, y 129, y 130, y 131, y 132, y 133, y 134, y 135, y 136, y 137, y 138, y 139, y 140, y 141, y 142, y 143, y 144, y 145, y 146, y 147, y 148, y 149, y 150, y 151, y 152, y 153], defers := [] } w := by
  obtain ⟨i3, hi3, hz30, hz31, hz32⟩ := info_parts Try.info3
  have HTL : Hid (∀ (a : Act) (w' : World) (p : Nat) (M : Fam), FN (.slice a0 n k0) p a → NIn w p w' M (P00 n) → Code.wp Try.prog tail (bodyPost Try.prog Try.f26 fun e w' => ∃ p, e = .returned (.pointer (some ⟨p, 0, none⟩)) ∧ Z p w') a w') := hT
  clear hT
  simp only [rt, Try.f26, Option.getD]
  go_wp2_with (at_make; refine wpList_make_row rfl (.tmp 16) (.tmp 16) 26 rfl 3 i3 (.int .i64 0) 1 8 (.int .i64 0) Try.underlying26 hi3 hz30 hz31 hz32 rfl (by decide) zero1 (n + 1) _ _ rfl rfl rfl rfl (by omega) (by omega) ?_; intro w1 hF; have HF : Hid (Fresh w w1 3 1 w.heap.size (n + 1) (n + 1) (fun _ => .int .i64 0)) := hF; clear hF)
  have r1 := HF.out.rep (Rep.nil KP w) 0 rfl
  have g1 := HF.out.grew Fam.nil 0
  have f2 := fresh_alloc w1 53 12 1 #[.slice (some ⟨w.heap.size, 0, none⟩) (n + 1) (n + 1), .slice none 0 0, .slice none 0 0, .slice none 0 0, .slice none 0 0, .slice none 0 0, .slice none 0 0, .slice none 0 0, .slice none 0 0, .slice none 0 0, .slice none 0 0, .int .i64 0] (hd00 n w.heap.size) rfl (by simp [maxLen]) (fun j hj => by
    match j, hj with
    | 0, _ => rfl
    | 1, _ => rfl
    | 2, _ => rfl
    | 3, _ => rfl
    | 4, _ => rfl
    | 5, _ => rfl
    | 6, _ => rfl
    | 7, _ => rfl
    | 8, _ => rfl
    | 9, _ => rfl
    | 10, _ => rfl
    | 11, _ => rfl)
  exact HTL.out _ _ w1.heap.size (F00 n w.heap.size w1.heap.size) ⟨by kernel_rfl, by kernel_rfl, by kernel_rfl, by kernel_rfl⟩ ⟨f2.rep r1 11 rfl, PM00 n w.heap.size w1.heap.size, g1.trans (f2.grew _ 11), put_bs⟩

def N1I (w : World) (N : Fam) (G : GR) (a0 : Option Addr) (k0 p : Nat) (a : Act) (w' : World) : Prop :=
  FN (.slice a0 G.n k0) p a ∧ a.tmps.getD 20 undef = .slice a0 G.n k0 ∧ a.tmps.getD 21 undef = .int .i64 (G.n : Int) ∧ ∃ i : Nat, a.tmps.getD 22 undef = .int .i64 (i : Int) ∧ i ≤ G.n ∧ ∃ M, NIn w p w' M (P01 G i)
def mu22 (n : Nat) (a : Act) : Nat := n - (intOf (a.tmps.getD 22 undef)).toNat

theorem P01_zero (G : GR) : P00 G.n = P01 G 0 := by
  unfold P01 PS.clr0 P00
  simp only [PS.mk.injEq, true_and, and_true]
  funext u
  by_cases h : u ≤ 0
  · have : u = 0 := by omega
    subst this; rfl
  · rw [if_neg h]
theorem P01_succ (G : GR) (i : Nat) : (P01 G i).setFirst (i + 1) ((G.fst (i + 1) : Nat) : Int) = P01 G (i + 1) := by
  unfold P01 PS.clr0 PS.setFirst P00
  simp only [PS.mk.injEq, true_and, and_true]
  funext u
  unfold upd
  by_cases h : u = i + 1
  · subst h; rw [if_pos rfl, if_pos (Nat.le_refl _)]
  · rw [if_neg h]
    show (if u ≤ i then ((G.fst u : Nat) : Int) else 0) = _
    by_cases h2 : u ≤ i
    · rw [if_pos h2, if_pos (by omega)]
    · rw [if_neg h2, if_neg (by omega)]

set_option maxRecDepth 40000 in
set_option maxHeartbeats 8000000 in
/-- The first loop: 'first'. -/
theorem np_2 (w : World) (N : Fam) (G : GR) (a0 : Option Addr) (k0 p : Nat) (hG : GM w N G a0 k0) (ok : G.Ok) (a : Act) (wr : World) (M : Fam) (hf : FN (.slice a0 G.n k0) p a) (hN : NIn w p wr M (P00 G.n)) (Q : Exit → Act → World → Prop)
    (hC : ∀ (a : Act) (w' : World) (M : Fam), FN (.slice a0 G.n k0) p a → NIn w p w' M (P01 G G.n) → Q .normal a w') :
    Code.wp Try.prog (sL (tl 2 (Try.f26.body.getD .skip))) Q a wr := by
  obtain ⟨y, rfl⟩ := litn hf.sz hf.df hf.s0 hf.s3
  have start : Hid (∃ M, NIn w p wr M (P01 G 0)) := ⟨M, by rw [← P01_zero]; exact hN⟩
  have HC : Hid (∀ (a : Act) (w' : World) (M : Fam), FN (.slice a0 G.n k0) p a → NIn w p w' M (P01 G G.n) → Q .normal a w') := hC
  have HG : Hid (GM w N G a0 k0) := hG
  have HO : Hid G.Ok := ok
  have hn := ok.n
  have hE := ok.E
  clear hf hN hC hG ok
  show Code.wp Try.prog (Code.seq _ (Code.block 0 (Code.loop (Code.seq _ (Code.seq (Code.cond (.tmp 23) Code.skip (Code.exit 0)) (Code.seq (Code.block 1 (Code.seq _ _)) _)))))) Q _ wr
  refine wp_seq_k (fun K1 hK => ?_)
  have HK : Hid (∀ (a : Act) (w : World), _ → K1 a w) := hK
  clear hK
  go_wp2
  refine HK.out _ _ ?_
  clear HK K1
  refine wp_block ?_
  refine wp_loop (N1I w N G a0 k0 p) (fun a _ => mu22 G.n a) ⟨⟨by kernel_rfl, by kernel_rfl, by kernel_rfl, by kernel_rfl⟩, by kernel_rfl, by kernel_rfl, 0, by kernel_rfl, Nat.zero_le _, start.out⟩ ?_
  clear start
  rintro a w' ⟨hf, h20, h21, i, h22, i1, M, hN⟩
  have e22 : mu22 G.n a = G.n - i := congrArg (fun v => G.n - (intOf v).toNat) h22
  obtain ⟨y2, rfl⟩ := litn1 hf.sz hf.df hf.s0 hf.s3 h20 h21 h22
  rw [e22]
  clear e22 hf h20 h21 h22
  refine wp_seq_k (fun K1 hK => ?_)
  have HK : Hid (∀ (a : Act) (w : World), _ → K1 a w) := hK
  clear hK
  by_cases hi : i < G.n
  · have hii : (i : Int) < (G.n : Int) := by omega
    obtain ⟨g, ha, lc, xh⟩ := (HG.out.kept hN.grew).cell hi
    subst ha
    have xp := hN.pm.hdr hN.rep hN.b11 (show 0 < 11 by omega)
    obtain ⟨g0, b0⟩ := hN.rep.hasBlock (i := 0) (by rw [hN.pm.first.1]; show 0 < G.n + 1; omega)
    rw [val_some b0, hN.pm.first.1] at xp
    have l0 := hN.rep.le_cap 0
    rw [hN.pm.first.1] at l0
    have l0' : G.n + 1 ≤ M.cap 0 := l0
    have xp' : w'.cell? ⟨p, 0, none⟩ = some (.slice (some ⟨g0, 0, none⟩) (G.n + 1) (M.cap 0)) := xp
    have x1 := hN.pm.first.cell hN.rep b0 rfl (show i < G.n + 1 by omega)
    have e1 : (P01 G i).first i = ((G.fst i : Nat) : Int) := if_pos (Nat.le_refl _)
    rw [e1] at x1
    have x2 := hN.pm.first.cell hN.rep b0 rfl (show i + 1 < G.n + 1 by omega)
    have f2 := hN.rep.frozen b0 (i + 1)
    have hfs : ((G.fst i : Nat) : Int) + ((G.d i : Nat) : Int) = ((G.fst (i + 1) : Nat) : Int) := by show _ = (((G.fst i + G.d i : Nat)) : Int); omega
    have hle : G.fst (i + 1) ≤ 4096 := Nat.le_trans (G.fst_mono (by omega)) hE
    have hw1 : IntKind.i64.wrap (((G.fst i : Nat) : Int) + ((G.d i : Nat) : Int)) = ((G.fst (i + 1) : Nat) : Int) := by rw [IntKind.wrap_i64, hfs]; omega
    have hw2 : IntKind.i64.wrap ((i : Int) + 1) = (i : Int) + 1 := by rw [IntKind.wrap_i64]; omega
    have hi1 : (i : Int) + 1 < (G.n : Int) + 1 := by omega
    have hi2 : (i : Int) < (G.n : Int) + 1 := by omega
    have hi3 : (0 : Int) ≤ (i : Int) + 1 := by omega
    have fin : Hid (∃ M, NIn w p ((w'.setCell ⟨g0, i + 1, none⟩ (.int .i64 ((G.fst (i + 1) : Nat) : Int))).drew) M (P01 G (i + 1))) := ⟨_, by
      have := (hN.setp b0 (hN.pm.set_first (i + 1) ((G.fst (i + 1) : Nat) : Int))).drew
      rw [P01_succ] at this
      exact this⟩
    clear hN b0 xp l0 e1 hfs
    generalize Option.map (fun g => (⟨g, 0, none⟩ : Addr)) (N.b (1 + i)) = ar at *
    generalize N.cap (1 + i) = kr at *
    generalize M.cap 0 = kk at *
    generalize (P01 G i).first (i + 1) = vv at *
    go_wp2
    refine HK.out _ _ ?_
    clear HK K1
    refine wp_seq_k (fun K1 hK => ?_)
    have HK : Hid (∀ (a : Act) (w : World), _ → K1 a w) := hK
    clear hK
    refine wp_cond_true (by kernel_rfl) (wp_skip ?_)
    refine HK.out _ _ ?_
    clear HK K1
    refine wp_seq_k (fun K1 hK => ?_)
    have HK : Hid (∀ (a : Act) (w : World), _ → K1 a w) := hK
    clear hK
    refine wp_block ?_
    refine wp_seq_k (fun K2 hK => ?_)
    have HK2 : Hid (∀ (a : Act) (w : World), _ → K2 a w) := hK
    clear hK
    go_wp2
    refine HK2.out _ _ ?_
    clear HK2 K2
    have FK : Hid (∀ k w'', k ≤ 0 → C1 w'.drew ((w'.setCell ⟨g0, i + 1, none⟩ (.int .i64 ((G.fst (i + 1) : Nat) : Int))).drew) k w'' → w'' = w'.drew) := by
      intro k w'' hk hw
      have hk : k = 0 := by omega
      subst hk
      exact hw
    refine wp_region_stage (C1 w'.drew ((w'.setCell ⟨g0, i + 1, none⟩ (.int .i64 ((G.fst (i + 1) : Nat) : Int))).drew)) [17] (fun i => 0) (by kernel_rfl) (by kernel_rfl) (rfl) ?_
    refine wpStage_read rfl rfl ?_
    apply Exists.intro
    refine ⟨fun k w'' hk hw => ?_, ?_⟩
    · go_simp
      first | rfl | exact ⟨rfl, hw⟩
    go_simp
    refine wpStage_read rfl rfl ?_
    apply Exists.intro
    refine ⟨fun k w'' hk hw => ?_, ?_⟩
    · go_simp
      first | rfl | exact ⟨rfl, hw⟩
    go_simp
    refine wpStage_read rfl rfl ?_
    apply Exists.intro
    refine ⟨fun k w'' hk hw => ?_, ?_⟩
    · go_simp
      first | rfl | exact ⟨rfl, hw⟩
    go_simp
    refine wpStage_read rfl rfl ?_
    apply Exists.intro
    refine ⟨fun k w'' hk hw => ?_, ?_⟩
    · have hw0 := FK.out k w'' hk hw
      subst hw0
      go_simp
      first | rfl | exact ⟨rfl, hw⟩
    go_simp
    refine wpStage_read rfl rfl ?_
    apply Exists.intro
    refine ⟨fun k w'' hk hw => ?_, ?_⟩
    · go_simp
      first | rfl | exact ⟨rfl, hw⟩
    go_simp
    refine wpStage_read rfl rfl ?_
    apply Exists.intro
    refine ⟨fun k w'' hk hw => ?_, ?_⟩
    · go_simp
      first | rfl | exact ⟨rfl, hw⟩
    go_simp
    refine wpStage_read rfl rfl ?_
    apply Exists.intro
    refine ⟨fun k w'' hk hw => ?_, ?_⟩
    · go_simp
      first | rfl | exact ⟨rfl, hw⟩
    go_simp
    refine wpStage_read rfl rfl ?_
    apply Exists.intro
    refine ⟨fun k w'' hk hw => ?_, ?_⟩
    · go_simp
      first | rfl | exact ⟨rfl, hw⟩
    go_simp
    refine wpStage_read rfl rfl ?_
    apply Exists.intro
    refine ⟨fun k w'' hk hw => ?_, ?_⟩
    · go_simp
      first | rfl | exact ⟨rfl, hw⟩
    go_simp
    refine wpStage_read rfl rfl ?_
    apply Exists.intro
    refine ⟨fun k w'' hk hw => ?_, ?_⟩
    · have hw0 := FK.out k w'' hk hw
      subst hw0
      go_simp
      first | rfl | exact ⟨rfl, hw⟩
    go_simp
    refine wpStage_read rfl rfl ?_
    apply Exists.intro
    refine ⟨fun k w'' hk hw => ?_, ?_⟩
    · go_simp
      first | rfl | exact ⟨rfl, hw⟩
    go_simp
    refine wpStage_read rfl rfl ?_
    apply Exists.intro
    refine ⟨fun k w'' hk hw => ?_, ?_⟩
    · go_simp
      first | rfl | exact ⟨rfl, hw⟩
    go_simp
    refine wpStage_read rfl rfl ?_
    apply Exists.intro
    refine ⟨fun k w'' hk hw => ?_, ?_⟩
    · have hw0 := FK.out k w'' hk hw
      subst hw0
      go_simp
      first | rfl | exact ⟨rfl, hw⟩
    go_simp
    refine wpStage_read rfl rfl ?_
    apply Exists.intro
    refine ⟨fun k w'' hk hw => ?_, ?_⟩
    · go_simp
      first | rfl | exact ⟨rfl, hw⟩
    go_simp
    refine wpStage_read rfl rfl ?_
    apply Exists.intro
    refine ⟨fun k w'' hk hw => ?_, ?_⟩
    · go_simp
      first | rfl | exact ⟨rfl, hw⟩
    go_simp
    refine wpStage_read rfl rfl ?_
    apply Exists.intro
    refine ⟨fun k w'' hk hw => ?_, ?_⟩
    · go_simp
      first | rfl | exact ⟨rfl, hw⟩
    go_simp
    refine wpStage_read rfl rfl ?_
    apply Exists.intro
    refine ⟨fun k w'' hk hw => ?_, ?_⟩
    · go_simp
      first | rfl | exact ⟨rfl, hw⟩
    go_simp
    refine wpStage_move rfl rfl ?_
    apply Exists.intro
    refine ⟨fun w'' hw => ?_, ?_⟩
    · have hw : w'' = w'.drew := hw
      subst hw
      go_simp
      first | rfl | exact ⟨rfl, rfl⟩
    go_simp
    intro we hw0
    have hw : we = ((w'.setCell ⟨g0, i + 1, none⟩ (.int .i64 ((G.fst (i + 1) : Nat) : Int))).drew) := hw0
    clear hw0
    rw [← hw] at fin
    clear hw FK
    refine HK.out _ _ ?_
    clear HK K1 xh xp' x1 x2 f2
    go_wp2
    exact ⟨⟨⟨by kernel_rfl, by kernel_rfl, by kernel_rfl, by kernel_rfl⟩, by kernel_rfl, by kernel_rfl, i + 1, by kernel_rfl, by omega, fin.out⟩, Nat.lt_of_le_of_lt (Nat.le_of_eq (by kernel_rfl : _ = G.n - (i + 1))) (by omega)⟩
  · have hii : ¬ (i : Int) < (G.n : Int) := by omega
    obtain rfl : i = G.n := by omega
    have HN : Hid (NIn w p w' M (P01 G G.n)) := hN
    clear hN
    go_wp2
    refine HK.out _ _ ?_
    refine wp_seq_k (fun K4 hK => ?_)
    refine wp_cond_false (by kernel_rfl) (wp_exit ?_)
    exact HC.out _ _ M ⟨by kernel_rfl, by kernel_rfl, by kernel_rfl, by kernel_rfl⟩ HN.out
end Go.Proofs.Qxb6602148a
