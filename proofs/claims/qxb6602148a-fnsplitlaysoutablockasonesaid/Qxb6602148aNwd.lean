import Derived.Test.Qxb6602148aNwc
attribute [local go_sem] Go.Proofs.Qxb6602148a.yTo Go.Proofs.Qxb6602148a.yUpon
namespace Go.Proofs.Qxb6602148a
open Go.RowKit
set_option linter.unusedVariables false
set_option linter.unusedSimpArgs false
set_option maxRecDepth 40000 in
theorem litn8b {a : Act} {u0 u3 u7 u8 u9 u74 u75 u76 : Value} (hs : a.tmps.size = 154) (hd : a.defers = []) (h0 : a.tmps.getD 0 undef = u0) (h3 : a.tmps.getD 3 undef = u3) (h7 : a.tmps.getD 7 undef = u7) (h8 : a.tmps.getD 8 undef = u8) (h9 : a.tmps.getD 9 undef = u9) (h74 : a.tmps.getD 74 undef = u74) (h75 : a.tmps.getD 75 undef = u75) (h76 : a.tmps.getD 76 undef = u76) : ∃ y : Nat → Value, a = { tmps := #[u0, y 1, y 2, u3, y 4, y 5, y 6, u7, u8, u9, y 10, y 11, y 12, y 13, y 14, y 15, y 16, y 17, y 18, y 19, y 20, y 21, y 22, y 23, y 24, y 25, y 26, y 27, y 28, y 29, y 30, y 31, y 32, y 33, y 34, y 35, y 36, y 37, y 38, y 39, y 40, y 41, y 42, y 43, y 44, y 45, y 46, y 47, y 48, y 49, y 50, y 51, y 52, y 53, y 54, y 55, y 56, y 57, y 58, y 59, y 60, y 61, y 62, y 63, y 64, y 65, y 66, y 67, y 68, y 69, y 70, y 71, y 72, y 73, u74, u75, u76, y 77, y 78, y 79, y 80, y 81, y 82, y 83, y 84, y 85, y 86, y 87, y 88, y 89, y 90, y 91, y 92, y 93, y 94, y 95, y 96, y 97, y 98, y 99, y 100, y 101, y 102, y 103, y 104, y 105, y 106, y 107, y 108, y 109, y 110, y 111, y 112, y 113, y 114, y 115, y 116, y 117, y 118, y 119, y 120, y 121, y 122, y 123, y 124, y 125, y 126, y 127, y 128, y 129, y 130, y 131, y 132, y 133, y 134, y 135, y 136, y 137, y 138, y 139, y 140, y 141, y 142, y 143, y 144, y 145, y 146, y 147, y 148, y 149, y 150, y 151, y 152, y 153], defers := [] } := by
  obtain ⟨tmps, defers⟩ := a
  have yd : defers = [] := hd
  subst yd
  obtain ⟨y, hy, hi⟩ := arr_154 tmps hs
  have e0 := (hi 0).trans h0
  have e3 := (hi 3).trans h3
  have e7 := (hi 7).trans h7
  have e8 := (hi 8).trans h8
  have e9 := (hi 9).trans h9
  have e74 := (hi 74).trans h74
  have e75 := (hi 75).trans h75
  have e76 := (hi 76).trans h76
  rw [e0, e3, e7, e8, e9, e74, e75, e76] at hy
  exact ⟨y, congrArg (fun t => (⟨t, []⟩ : Act)) hy⟩
set_option maxRecDepth 40000 in
theorem litn7 {a : Act} {u0 u3 u7 : Value} (hs : a.tmps.size = 154) (hd : a.defers = []) (h0 : a.tmps.getD 0 undef = u0) (h3 : a.tmps.getD 3 undef = u3) (h7 : a.tmps.getD 7 undef = u7) : ∃ y : Nat → Value, a = { tmps := #[u0, y 1, y 2, u3, y 4, y 5, y 6, u7, y 8, y 9, y 10, y 11, y 12, y 13, y 14, y 15, y 16, y 17, y 18, y 19, y 20, y 21, y 22, y 23, y 24, y 25, y 26, y 27, y 28, y 29, y 30, y 31, y 32, y 33, y 34, y 35, y 36, y 37, y 38, y 39, y 40, y 41, y 42, y 43, y 44, y 45, y 46, y 47, y 48, y 49, y 50, y 51, y 52, y 53, y 54, y 55, y 56, y 57, y 58, y 59, y 60, y 61, y 62, y 63, y 64, y 65, y 66, y 67, y 68, y 69, y 70, y 71, y 72, y 73, y 74, y 75, y 76, y 77, y 78, y 79, y 80, y 81, y 82, y 83, y 84, y 85, y 86, y 87, y 88, y 89, y 90, y 91, y 92, y 93, y 94, y 95, y 96, y 97, y 98, y 99, y 100, y 101, y 102, y 103, y 104, y 105, y 106, y 107, y 108, y 109, y 110, y 111, y 112, y 113, y 114, y 115, y 116, y 117, y 118, y 119, y 120, y 121, y 122, y 123, y 124, y 125, y 126, y 127, y 128, y 129, y 130, y 131, y 132, y 133, y 134, y 135, y 136, y 137, y 138, y 139, y 140, y 141, y 142, y 143, y 144, y 145, y 146, y 147, y 148, y 149, y 150, y 151, y 152, y 153], defers := [] } := by
  obtain ⟨tmps, defers⟩ := a
  have yd : defers = [] := hd
  subst yd
  obtain ⟨y, hy, hi⟩ := arr_154 tmps hs
  have e0 := (hi 0).trans h0
  have e3 := (hi 3).trans h3
  have e7 := (hi 7).trans h7
  rw [e0, e3, e7] at hy
  exact ⟨y, congrArg (fun t => (⟨t, []⟩ : Act)) hy⟩
set_option maxRecDepth 40000 in
theorem litn6 {a : Act} {u0 u3 u6 : Value} (hs : a.tmps.size = 154) (hd : a.defers = []) (h0 : a.tmps.getD 0 undef = u0) (h3 : a.tmps.getD 3 undef = u3) (h6 : a.tmps.getD 6 undef = u6) : ∃ y : Nat → Value, a = { tmps := #[u0, y 1, y 2, u3, y 4, y 5, u6, y 7, y 8, y 9, y 10, y 11, y 12, y 13, y 14, y 15, y 16, y 17, y 18, y 19, y 20, y 21, y 22, y 23, y 24, y 25, y 26, y 27, y 28, y 29, y 30, y 31, y 32, y 33, y 34, y 35, y 36, y 37, y 38, y 39, y 40, y 41, y 42, y 43, y 44, y 45, y 46, y 47, y 48, y 49, y 50, y 51, y 52, y 53, y 54, y 55, y 56, y 57, y 58, y 59, y 60, y 61, y 62, y 63, y 64, y 65, y 66, y 67, y 68, y 69, y 70, y 71, y 72, y 73, y 74, y 75, y 76, y 77, y 78, y 79, y 80, y 81, y 82, y 83, y 84, y 85, y 86, y 87, y 88, y 89, y 90, y 91, y 92, y 93, y 94, y 95, y 96, y 97, y 98, y 99, y 100, y 101, y 102, y 103, y 104, y 105, y 106, y 107, y 108, y 109, y 110, y 111, y 112, y 113, y 114, y 115, y 116, y 117, y 118, y 119, y 120, y 121, y 122, y 123, y 124, y 125, y 126, y 127, y 128, y 129, y 130, y 131, y 132, y 133, y 134, y 135, y 136, y 137, y 138, y 139, y 140, y 141, y 142, y 143, y 144, y 145, y 146, y 147, y 148, y 149, y 150, y 151, y 152, y 153], defers := [] } := by
  obtain ⟨tmps, defers⟩ := a
  have yd : defers = [] := hd
  subst yd
  obtain ⟨y, hy, hi⟩ := arr_154 tmps hs
  have e0 := (hi 0).trans h0
  have e3 := (hi 3).trans h3
  have e6 := (hi 6).trans h6
  rw [e0, e3, e6] at hy
  exact ⟨y, congrArg (fun t => (⟨t, []⟩ : Act)) hy⟩

def N3I (w : World) (G : GR) (a0 : Option Addr) (k0 p i : Nat) (ar : Option Addr) (kr : Nat) (a : Act) (w' : World) : Prop :=
  FL3 G a0 k0 p i ar kr a ∧ ∃ k : Nat, a.tmps.getD 87 undef = .int .i64 (k : Int) ∧ k ≤ G.d i ∧ ∃ M P, NIn w p w' M P ∧ NP G i k (i + 1) P
def mu87 (n : Nat) (a : Act) : Nat := n - (intOf (a.tmps.getD 87 undef)).toNat

set_option maxRecDepth 40000 in
set_option maxHeartbeats 8000000 in
/-- A node's edges. -/
theorem np_inner (w : World) (N : Fam) (G : GR) (a0 : Option Addr) (k0 p i : Nat) (ar : Option Addr) (kr : Nat) (hG : GM w N G a0 k0) (ok : G.Ok) (hi : i < G.n) (har : ar = Option.map (fun g => (⟨g, 0, none⟩ : Addr)) (N.b (1 + i))) (hkr : kr = N.cap (1 + i)) (a : Act) (w' : World) (M : Fam) (P : PS) (hf : FL2 G a0 k0 p i a) (h8 : a.tmps.getD 8 undef = .int .i64 (i : Int)) (h9 : a.tmps.getD 9 undef = .slice ar (G.d i) kr) (h10 : a.tmps.getD 10 undef = .int .i64 (i : Int)) (hN : NIn w p w' M P) (hP : NP G i 0 (i + 1) P) (Q : Exit → Act → World → Prop)
    (hC : ∀ (a : Act) (w' : World) (M : Fam) (P : PS), FL2 G a0 k0 p i a → NIn w p w' M P → NP G i (G.d i) (i + 1) P → Q .normal a w') :
    Code.wp Try.prog (tl 2 (nB3 (Try.f26.body.getD .skip))) Q a w' := by
  obtain ⟨y, rfl⟩ := litn8 hf.sz hf.df hf.s0 hf.s3 hf.s7 h8 h9 h10 hf.s74 hf.s75 hf.s76
  have start : Hid (∃ M P, NIn w p w' M P ∧ NP G i 0 (i + 1) P) := ⟨M, P, hN, hP⟩
  have HG : Hid (GM w N G a0 k0) := hG
  have HO : Hid G.Ok := ok
  have HAR : Hid (ar = Option.map (fun g => (⟨g, 0, none⟩ : Addr)) (N.b (1 + i))) := har
  have HKR : Hid (kr = N.cap (1 + i)) := hkr
  have HC : Hid (∀ (a : Act) (w' : World) (M : Fam) (P : PS), FL2 G a0 k0 p i a → NIn w p w' M P → NP G i (G.d i) (i + 1) P → Q .normal a w') := hC
  have hd : G.d i ≤ 4096 := by
    have h1 : G.fst (i + 1) ≤ G.E := G.fst_mono (by omega)
    have h2 : G.fst (i + 1) = G.fst i + G.d i := rfl
    have := ok.E
    omega
  clear hf h8 h9 h10 hN hP hG ok har hkr hC
  show Code.wp Try.prog (Code.seq _ (Code.block 4 (Code.loop (Code.seq _ (Code.seq (Code.cond (.tmp 88) Code.skip (Code.exit 4)) (Code.seq (Code.block 5 (nB5 (Try.f26.body.getD .skip))) _)))))) Q _ w'
  refine wp_seq_k (fun K1 hK => ?_)
  have HK : Hid (∀ (a : Act) (w : World), _ → K1 a w) := hK
  clear hK
  go_wp2
  refine HK.out _ _ ?_
  clear HK K1
  refine wp_block ?_
  refine wp_loop (N3I w G a0 k0 p i ar kr) (fun a _ => mu87 (G.d i) a) ⟨⟨⟨by kernel_rfl, by kernel_rfl, by kernel_rfl, by kernel_rfl, by kernel_rfl, by kernel_rfl, by kernel_rfl, by kernel_rfl⟩, by kernel_rfl, by kernel_rfl, by kernel_rfl, by kernel_rfl⟩, 0, by kernel_rfl, Nat.zero_le _, start.out⟩ ?_
  clear start
  rintro a w2 ⟨hf, k, h87, k1, M, P, hN, hP⟩
  have e87 : mu87 (G.d i) a = G.d i - k := congrArg (fun v => G.d i - (intOf v).toNat) h87
  obtain ⟨y2, rfl⟩ := litn3 hf.f2.sz hf.f2.df hf.f2.s0 hf.f2.s3 hf.f2.s7 hf.s8 hf.s10 hf.f2.s74 hf.f2.s75 hf.f2.s76 hf.s85 hf.s86 h87
  rw [e87]
  clear e87 hf h87
  have HN : Hid (NIn w p w2 M P) := hN
  have HP : Hid (NP G i k (i + 1) P) := hP
  clear hN hP
  refine wp_seq_k (fun K1 hK => ?_)
  have HK : Hid (∀ (a : Act) (w : World), _ → K1 a w) := hK
  clear hK
  by_cases hk : k < G.d i
  · have hki : (k : Int) < ((G.d i : Nat) : Int) := by omega
    go_wp2
    refine HK.out _ _ ?_
    clear HK K1
    refine wp_seq_k (fun K1 hK => ?_)
    have HK : Hid (∀ (a : Act) (w : World), _ → K1 a w) := hK
    clear hK
    refine wp_cond_true (by kernel_rfl) (wp_skip ?_)
    refine HK.out _ _ ?_
    clear HK K1
    refine wp_seq_k (fun K1 hK => ?_)
    have HK : Hid (∀ (a : Act) (w : World), Code.wp Try.prog _ _ a w → K1 a w) := hK
    clear hK
    refine wp_block ?_
    refine np_edge w N G a0 k0 p i k ar kr HG.out HO.out hi hk HAR.out HKR.out _ w2 M P ⟨⟨by kernel_rfl, by kernel_rfl, by kernel_rfl, by kernel_rfl, by kernel_rfl, by kernel_rfl, by kernel_rfl, by kernel_rfl⟩, by kernel_rfl, by kernel_rfl, by kernel_rfl, by kernel_rfl⟩ (by kernel_rfl) HN.out HP.out _ ?_
    intro a w3 M3 P3 hf h87 hN3 hP3
    show K1 a w3
    refine HK.out _ _ ?_
    have HM : Hid (∃ M P, NIn w p w3 M P ∧ NP G i (k + 1) (i + 1) P) := ⟨M3, P3, hN3, hP3⟩
    obtain ⟨y3, rfl⟩ := litn3 hf.f2.sz hf.f2.df hf.f2.s0 hf.f2.s3 hf.f2.s7 hf.s8 hf.s10 hf.f2.s74 hf.f2.s75 hf.f2.s76 hf.s85 hf.s86 h87
    clear hf h87 hN3 hP3 HK HN HP
    go_wp2
    exact ⟨⟨⟨⟨by kernel_rfl, by kernel_rfl, by kernel_rfl, by kernel_rfl, by kernel_rfl, by kernel_rfl, by kernel_rfl, by kernel_rfl⟩, by kernel_rfl, by kernel_rfl, by kernel_rfl, by kernel_rfl⟩, k + 1, by kernel_rfl, by omega, HM.out⟩, Nat.lt_of_le_of_lt (Nat.le_of_eq (by kernel_rfl : _ = G.d i - (k + 1))) (by omega)⟩
  · have hki : ¬ (k : Int) < ((G.d i : Nat) : Int) := by omega
    have hkk : k = G.d i := by omega
    have HP2 : Hid (NP G i (G.d i) (i + 1) P) := by rw [← hkk]; exact HP.out
    clear HP hkk
    go_wp2
    refine HK.out _ _ ?_
    refine wp_seq_k (fun K4 hK => ?_)
    refine wp_cond_false (by kernel_rfl) (wp_exit ?_)
    exact HC.out _ _ M P ⟨by kernel_rfl, by kernel_rfl, by kernel_rfl, by kernel_rfl, by kernel_rfl, by kernel_rfl, by kernel_rfl, by kernel_rfl⟩ HN.out HP2.out

set_option maxRecDepth 40000 in
set_option maxHeartbeats 8000000 in
/-- A node. -/
theorem np_node (w : World) (N : Fam) (G : GR) (a0 : Option Addr) (k0 p i : Nat) (hG : GM w N G a0 k0) (ok : G.Ok) (hi : i < G.n) (a : Act) (w' : World) (M : Fam) (P : PS) (hf : FL2 G a0 k0 p i a) (hN : NIn w p w' M P) (hP : NP G i 0 i P) (Q : Exit → Act → World → Prop)
    (hC : ∀ (a : Act) (w' : World) (M : Fam) (P : PS), FL2 G a0 k0 p i a → NIn w p w' M P → NP G (i + 1) 0 (i + 1) P → Q .normal a w') :
    Code.wp Try.prog (nB3 (Try.f26.body.getD .skip)) Q a w' := by
  obtain ⟨g, ha, lc, xh⟩ := (hG.kept hN.grew).cell hi
  subst ha
  have hn := ok.n
  have hcall := newSlot_calls w' M P p 0 ((i : Nat) : Int) hN.rep hN.pm hN.b11 (fun h => by rw [hP.nF] at h; omega) (by rw [hP.nS]; omega) (by rw [hP.nC]; omega) (by rw [hP.mn]; omega)
  rw [hP.slotNo] at hcall
  have HCall : Hid (Calls Try.prog 31 #[.pointer (some ⟨p, 0, none⟩), .int .i64 ((i : Nat) : Int), .int .i64 0] w' fun e w2 => e = .returned (.int .i64 (i : Int)) ∧ ∃ M', NIn w p w2 M' (P.newSlot ((i : Nat) : Int) 0)) := by
    refine hcall.mono ?_
    rintro e w2 ⟨rfl, ho⟩
    exact ⟨rfl, hN.call ho⟩
  have HG : Hid (GM w N G (some ⟨g, 0, none⟩) k0) := hG
  have HO : Hid G.Ok := ok
  have HP : Hid (NP G i 0 (i + 1) (P.newSlot ((i : Nat) : Int) 0)) := hP.slot
  have HC : Hid (∀ (a : Act) (w' : World) (M : Fam) (P : PS), FL2 G (some ⟨g, 0, none⟩) k0 p i a → NIn w p w' M P → NP G (i + 1) 0 (i + 1) P → Q .normal a w') := hC
  have hii : (i : Int) < (G.n : Int) := by omega
  obtain ⟨y, rfl⟩ := litn2 hf.sz hf.df hf.s0 hf.s3 hf.s7 hf.s74 hf.s75 hf.s76
  clear hcall hf hN hP hG ok hC
  show Code.wp Try.prog (Code.seq _ (Code.seq _ (tl 2 (nB3 (Try.f26.body.getD .skip))))) Q _ w'
  refine wp_seq_k (fun K1 hK => ?_)
  have HK : Hid (∀ (a : Act) (w : World), _ → K1 a w) := hK
  clear hK
  go_wp2
  refine HK.out _ _ ?_
  clear HK K1 xh
  refine wp_seq_k (fun K1 hK => ?_)
  have HK : Hid (∀ (a : Act) (w : World), _ → K1 a w) := hK
  clear hK
  go_wp2_with (go_at_call 31; refine HCall.out.mono ?_; rintro e w2 ⟨rfl, M', hN⟩; have HN : Hid (NIn w p w2 M' (P.newSlot ((i : Nat) : Int) 0)) := hN; clear hN)
  refine HK.out _ _ ?_
  refine np_inner w N G (some ⟨g, 0, none⟩) k0 p i _ _ HG.out HO.out hi rfl rfl _ w2 M' _ ⟨by kernel_rfl, by kernel_rfl, by kernel_rfl, by kernel_rfl, by kernel_rfl, by kernel_rfl, by kernel_rfl, by kernel_rfl⟩ (by kernel_rfl) (by kernel_rfl) (by kernel_rfl) HN.out HP.out Q ?_
  intro a w3 M3 P3 hf hN3 hP3
  exact HC.out a w3 M3 P3 hf hN3 hP3.next

def N2I (w : World) (G : GR) (a0 : Option Addr) (k0 p : Nat) (a : Act) (w' : World) : Prop :=
  ∃ i, FL2 G a0 k0 p i a ∧ i ≤ G.n ∧ ∃ M P, NIn w p w' M P ∧ NP G i 0 i P
def mu76 (n : Nat) (a : Act) : Nat := n - (intOf (a.tmps.getD 76 undef)).toNat

set_option maxRecDepth 40000 in
set_option maxHeartbeats 8000000 in
/-- All nodes. -/
theorem np_5 (w : World) (N : Fam) (G : GR) (a0 : Option Addr) (k0 p : Nat) (hG : GM w N G a0 k0) (ok : G.Ok) (a : Act) (wr : World) (M : Fam) (hf : FN (.slice a0 G.n k0) p a) (h7 : a.tmps.getD 7 undef = .int .i64 0) (hN : NIn w p wr M (PN0 G)) (Q : Exit → Act → World → Prop)
    (hC : ∀ (a : Act) (w' : World) (M : Fam) (P : PS), FN (.slice a0 G.n k0) p a → a.tmps.getD 7 undef = .int .i64 0 → NIn w p w' M P → NP G G.n 0 G.n P → Q .normal a w') :
    Code.wp Try.prog (sL (tl 7 (Try.f26.body.getD .skip))) Q a wr := by
  obtain ⟨y, rfl⟩ := litn7 hf.sz hf.df hf.s0 hf.s3 h7
  have start : Hid (∃ M P, NIn w p wr M P ∧ NP G 0 0 0 P) := ⟨M, _, hN, NP.start G⟩
  have HG : Hid (GM w N G a0 k0) := hG
  have HO : Hid G.Ok := ok
  have hn := ok.n
  have HC : Hid (∀ (a : Act) (w' : World) (M : Fam) (P : PS), FN (.slice a0 G.n k0) p a → a.tmps.getD 7 undef = .int .i64 0 → NIn w p w' M P → NP G G.n 0 G.n P → Q .normal a w') := hC
  clear hf h7 hN hG ok hC
  show Code.wp Try.prog (Code.seq _ (Code.block 2 (Code.loop (Code.seq _ (Code.seq (Code.cond (.tmp 77) Code.skip (Code.exit 2)) (Code.seq (Code.block 3 (nB3 (Try.f26.body.getD .skip))) _)))))) Q _ wr
  refine wp_seq_k (fun K1 hK => ?_)
  have HK : Hid (∀ (a : Act) (w : World), _ → K1 a w) := hK
  clear hK
  go_wp2
  refine HK.out _ _ ?_
  clear HK K1
  refine wp_block ?_
  refine wp_loop (N2I w G a0 k0 p) (fun a _ => mu76 G.n a) ⟨0, ⟨by kernel_rfl, by kernel_rfl, by kernel_rfl, by kernel_rfl, by kernel_rfl, by kernel_rfl, by kernel_rfl, by kernel_rfl⟩, Nat.zero_le _, start.out⟩ ?_
  clear start
  rintro a w2 ⟨i, hf, i1, M, P, hN, hP⟩
  have e76 : mu76 G.n a = G.n - i := congrArg (fun v => G.n - (intOf v).toNat) hf.s76
  obtain ⟨y2, rfl⟩ := litn2 hf.sz hf.df hf.s0 hf.s3 hf.s7 hf.s74 hf.s75 hf.s76
  rw [e76]
  clear e76 hf
  have HN : Hid (NIn w p w2 M P) := hN
  have HP : Hid (NP G i 0 i P) := hP
  clear hN hP
  refine wp_seq_k (fun K1 hK => ?_)
  have HK : Hid (∀ (a : Act) (w : World), _ → K1 a w) := hK
  clear hK
  by_cases hi : i < G.n
  · have hii : (i : Int) < (G.n : Int) := by omega
    go_wp2
    refine HK.out _ _ ?_
    clear HK K1
    refine wp_seq_k (fun K1 hK => ?_)
    have HK : Hid (∀ (a : Act) (w : World), _ → K1 a w) := hK
    clear hK
    refine wp_cond_true (by kernel_rfl) (wp_skip ?_)
    refine HK.out _ _ ?_
    clear HK K1
    refine wp_seq_k (fun K1 hK => ?_)
    have HK : Hid (∀ (a : Act) (w : World), Code.wp Try.prog _ _ a w → K1 a w) := hK
    clear hK
    refine wp_block ?_
    refine np_node w N G a0 k0 p i HG.out HO.out hi _ w2 M P ⟨by kernel_rfl, by kernel_rfl, by kernel_rfl, by kernel_rfl, by kernel_rfl, by kernel_rfl, by kernel_rfl, by kernel_rfl⟩ HN.out HP.out _ ?_
    intro a w3 M3 P3 hf hN3 hP3
    show K1 a w3
    refine HK.out _ _ ?_
    have HM : Hid (∃ M P, NIn w p w3 M P ∧ NP G (i + 1) 0 (i + 1) P) := ⟨M3, P3, hN3, hP3⟩
    obtain ⟨y3, rfl⟩ := litn2 hf.sz hf.df hf.s0 hf.s3 hf.s7 hf.s74 hf.s75 hf.s76
    clear hf hN3 hP3 HK HN HP
    go_wp2
    exact ⟨⟨i + 1, ⟨by kernel_rfl, by kernel_rfl, by kernel_rfl, by kernel_rfl, by kernel_rfl, by kernel_rfl, by kernel_rfl, by kernel_rfl⟩, by omega, HM.out⟩, Nat.lt_of_le_of_lt (Nat.le_of_eq (by kernel_rfl : _ = G.n - (i + 1))) (by omega)⟩
  · have hii : ¬ (i : Int) < (G.n : Int) := by omega
    obtain rfl : i = G.n := by omega
    go_wp2
    refine HK.out _ _ ?_
    refine wp_seq_k (fun K4 hK => ?_)
    refine wp_cond_false (by kernel_rfl) (wp_exit ?_)
    exact HC.out _ _ M P ⟨by kernel_rfl, by kernel_rfl, by kernel_rfl, by kernel_rfl⟩ (by kernel_rfl) HN.out HP.out

/-- What 'divide' leaves of P, plainly. -/
def DEndP (P : PS) (c n : Nat) (sl : Nat → Nat) (PF : PS) : Prop := ∃ x : DX, x.P = P ∧ x.c = c ∧ x.n = n ∧ x.sl = sl ∧ DEnd x PF
/-- What 'newPartition' leaves. -/
def NDone (w : World) (G : GR) (p : Nat) (w' : World) : Prop := ∃ M P PF, Rep KP w' M ∧ PM M PF ∧ Grew Fam.nil w M w' ∧ M.b 11 = some p ∧ NP G G.n 0 G.n P ∧ DEndP P 0 G.n (fun s => s) PF

set_option maxRecDepth 40000 in
set_option maxHeartbeats 8000000 in
/-- Regions 25 and 26. -/
theorem np_6 (w : World) (G : GR) (a0 : Option Addr) (k0 p : Nat) (ok : G.Ok) (wr : World) (M : Fam) (P : PS) (hN : NIn w p wr M P) (hP : NP G G.n 0 G.n P) (y : Nat → Value) :
    Code.wp Try.prog (tl 8 (Try.f26.body.getD .skip)) (bodyPost Try.prog Try.f26 fun e w' => ∃ p, e = .returned (.pointer (some ⟨p, 0, none⟩)) ∧ NDone w G p w') { tmps := #[.slice a0 G.n k0, y 1, y 2, .pointer (some ⟨p, 0, none⟩), y 4, y 5, y 6, .int .i64 0, y 8, y 9, y 10, y 11, y 12, y 13, y 14, y 15, y 16, y 17, y 18, y 19, y 20, y 21, y 22, y 23, y 24, y 25, y 26, y 27, y 28, y 29, y 30, y 31, y 32, y 33, y 34, y 35, y 36, y 37, y 38, y 39, y 40, y 41, y 42, y 43, y 44, y 45, y 46, y 47, y 48, y 49, y 50, y 51, y 52, y 53, y 54, y 55, y 56, y 57, y 58, y 59, y 60, y 61, y 62, y 63, y 64, y 65, y 66, y 67, y 68, y 69, y 70, y 71, y 72, y 73, y 74, y 75, y 76, y 77, y 78, y 79, y 80, y 81, y 82, y 83, y 84, y 85, y 86, y 87, y 88, y 89, y 90, y 91, y 92, y 93, y 94, y 95, y 96, y 97, y 98, y 99, y 100, y 101, y 102, y 103, y 104, y 105, y 106, y 107, y 108, y 109, y 110, y 111, y 112, y 113, y 114, y 115, y 116, y 117, y 118, y 119, y 120, y 121, y 122, y 123, y 124, y 125, y 126, y 127, y 128, y 129, y 130, y 131, y 132, y 133, y 134, y 135, y 136, y 137, y 138, y 139, y 140, y 141, y 142, y 143, y 144, y 145, y 146, y 147, y 148, y 149, y 150, y 151, y 152, y 153], defers := [] } wr := by
  have hcall := divide_calls wr M P p 0 G.n (fun s => s) hN.rep hN.pm hN.b11 (hP.go ok)
  have HCall : Hid (Calls Try.prog 28 #[.pointer (some ⟨p, 0, none⟩), .int .i64 0] wr fun e w' => e = .returned (.tuple #[]) ∧ NDone w G p w') := by
    refine hcall.mono ?_
    rintro e w' ⟨rfl, M', PF, r, pm, gr, lo, en⟩
    exact ⟨rfl, M', P, PF, r, pm, hN.grew.trans gr, lo.p.trans hN.b11, hP, _, rfl, rfl, rfl, rfl, en⟩
  clear hcall hN hP
  simp only [tl, Try.f26, Option.getD]
  go_wp2_with (go_at_call 28; refine HCall.out.mono ?_; rintro e w' ⟨rfl, hN⟩; have HN : Hid (NDone w G p w') := hN; clear hN)
  go_ret
  exact ⟨p, rfl, HN.out⟩

set_option maxRecDepth 40000 in
set_option maxHeartbeats 8000000 in
/-- 'newPartition'. -/
theorem newP_calls (w : World) (N : Fam) (G : GR) (a0 : Option Addr) (k0 : Nat) (hG : GM w N G a0 k0) (ok : G.Ok) :
    Calls Try.prog 26 #[.slice a0 G.n k0] w fun e w' => ∃ p, e = .returned (.pointer (some ⟨p, 0, none⟩)) ∧ NDone w G p w' := by
  refine calls_of_wp (c := Try.f26.body.getD .skip) Try.func26 rfl ?_
  have hfr : ({ tmps := #[.slice a0 G.n k0] ++ Array.replicate (Try.f26.ntmps - (#[.slice a0 G.n k0] : Array Value).size) undef, defers := [] } : Act) = { tmps := #[.slice a0 G.n k0, undef, undef, undef, undef, undef, undef, undef, undef, undef, undef, undef, undef, undef, undef, undef, undef, undef, undef, undef, undef, undef, undef, undef, undef, undef, undef, undef, undef, undef, undef, undef, undef, undef, undef, undef, undef, undef, undef, undef, undef, undef, undef, undef, undef, undef, undef, undef, undef, undef, undef, undef, undef, undef, undef, undef, undef, undef, undef, undef, undef, undef, undef, undef, undef, undef, undef, undef, undef, undef, undef, undef, undef, undef, undef, undef, undef, undef, undef, undef, undef, undef, undef, undef, undef, undef, undef, undef, undef, undef, undef, undef, undef, undef, undef, undef, undef, undef, undef, undef, undef, undef, undef, undef, undef, undef, undef, undef, undef, undef, undef, undef, undef, undef, undef, undef, undef, undef, undef, undef, undef, undef, undef, undef, undef, undef, undef, undef, undef, undef, undef, undef, undef, undef, undef, undef, undef, undef, undef, undef, undef, undef, undef, undef, undef, undef, undef, undef, undef, undef, undef, undef, undef, undef], defers := [] } := by kernel_rfl
  rw [hfr]
  clear hfr
  have h1 := np_1 w G.n a0 k0 ok.n (fun _ => undef) (tl 2 (Try.f26.body.getD .skip)) (NDone w G) ?_
  · rw [rt_tl] at h1
    exact h1
  intro a w1 p M hf hN
  have e2 : tl 2 (Try.f26.body.getD .skip) = Code.seq (sL (tl 2 (Try.f26.body.getD .skip))) (tl 3 (Try.f26.body.getD .skip)) := by kernel_rfl
  have e3 : tl 5 (Try.f26.body.getD .skip) = tl 2 (tl 3 (Try.f26.body.getD .skip)) := by kernel_rfl
  have e5 : tl 7 (Try.f26.body.getD .skip) = tl 2 (tl 5 (Try.f26.body.getD .skip)) := by kernel_rfl
  have e7 : tl 7 (Try.f26.body.getD .skip) = Code.seq (sL (tl 7 (Try.f26.body.getD .skip))) (tl 8 (Try.f26.body.getD .skip)) := by kernel_rfl
  rw [e2]
  refine wp_seq ?_
  refine np_2 w N G a0 k0 p hG ok a w1 M hf hN _ ?_
  intro a w2 M2 hf hN
  obtain ⟨y, rfl⟩ := litn hf.sz hf.df hf.s0 hf.s3
  have h3 := np_3 w G a0 k0 p ok w2 M2 hN y (tl 5 (Try.f26.body.getD .skip)) (NDone w G) ?_
  · rw [e3, rt_tl] at h3
    exact h3
  intro a w3 M3 hf h6 hN
  obtain ⟨y2, rfl⟩ := litn6 hf.sz hf.df hf.s0 hf.s3 h6
  have h4 := np_4 w G a0 k0 p ok w3 M3 hN y2 (tl 7 (Try.f26.body.getD .skip)) (NDone w G) ?_
  · rw [e5, rt_tl] at h4
    exact h4
  intro a w4 M4 hf h7 hN
  rw [e7]
  refine wp_seq ?_
  refine np_5 w N G a0 k0 p hG ok a w4 M4 hf h7 hN _ ?_
  intro a w5 M5 P5 hf h7 hN hP
  obtain ⟨y3, rfl⟩ := litn7 hf.sz hf.df hf.s0 hf.s3 h7
  exact np_6 w G a0 k0 p ok w5 M5 P5 hN hP y3
end Go.Proofs.Qxb6602148a
