import Derived.Test.Qxb6602148aNewR
import Derived.Test.Qxb6602148aStage
attribute [local go_sem] Go.Proofs.Qxb6602148a.yTo Go.Proofs.Qxb6602148a.yUpon
namespace Go.Proofs.Qxb6602148a
open Go.RowKit
set_option linter.unusedVariables false

/-- The rows of the calls are as they were, but for those of X. -/
structure LocX (X : Nat → Prop) (M M' : Fam) : Prop where
  p : M'.b 11 = M.b 11
  ft : ∀ i, i = 1 ∨ i = 2 → M'.b i = M.b i ∧ M'.cap i = M.cap i
  row : ∀ i, Own i → ¬ X i → M'.b i = M.b i ∧ M'.n i = M.n i ∧ M'.cap i = M.cap i ∧ M'.F i = M.F i

theorem Loc.toX {X : Nat → Prop} {M M' : Fam} (h : Loc M M') : LocX X M M' := ⟨h.p, h.ft, fun i hi _ => h.row i hi⟩
theorem LocX.refl (X : Nat → Prop) (M : Fam) : LocX X M M := ⟨rfl, fun _ _ => ⟨rfl, rfl⟩, fun _ _ _ => ⟨rfl, rfl, rfl, rfl⟩⟩
theorem LocX.trans {X : Nat → Prop} {M M' M'' : Fam} (h1 : LocX X M M') (h2 : LocX X M' M'') : LocX X M M'' :=
  ⟨h2.p.trans h1.p, fun i hi => ⟨(h2.ft i hi).1.trans (h1.ft i hi).1, (h2.ft i hi).2.trans (h1.ft i hi).2⟩, fun i hi hx => by
    obtain ⟨a, b, c, d⟩ := h1.row i hi hx
    obtain ⟨a', b', c', d'⟩ := h2.row i hi hx
    exact ⟨a'.trans a, b'.trans b, c'.trans c, d'.trans d⟩⟩
theorem LocX.mono {X Y : Nat → Prop} {M M' : Fam} (h : LocX X M M') (hX : ∀ i, X i → Y i) : LocX Y M M' := ⟨h.p, h.ft, fun i hi hy => h.row i hi (fun hx => hy (hX i hx))⟩
theorem LocX.set {X : Nat → Prop} {M M' : Fam} (h : LocX X M M') {i j : Nat} {v : Value} (hi : ¬ Own i ∨ X i) : LocX X M (M'.set i j v) := by
  refine ⟨h.p, h.ft, fun k hk hx => ?_⟩
  obtain ⟨a, b, c, d⟩ := h.row k hk hx
  refine ⟨a, b, c, ?_⟩
  funext t
  rw [← d]
  have : k ≠ i := fun e => by subst e; rcases hi with hi | hi; (· exact hi hk); (· exact hx hi)
  simp [Fam.set, this]
theorem LocX.put {X : Nat → Prop} {M M' : Fam} (h : LocX X M M') {i n cap : Nat} {b : Option Nat} {f : Nat → Value} (hi : ¬ Own i ∨ X i) (h11 : i ≠ 11 ∧ i ≠ 1 ∧ i ≠ 2) : LocX X M (M'.put i b n cap f) := by
  refine ⟨?_, fun k hk => ?_, fun k hk hx => ?_⟩
  · rw [← h.p]; simp [Fam.put, Ne.symm h11.1]
  · have : k ≠ i := by omega
    simpa [Fam.put, this] using h.ft k hk
  · obtain ⟨a, b, c, d⟩ := h.row k hk hx
    have : k ≠ i := fun e => by subst e; rcases hi with hi | hi; (· exact hi hk); (· exact hx hi)
    simp [Fam.put, this, a, b, c, d]

/-- A row of the calls, carried over. -/
theorem Loc.ints {M M' : Fam} (h : Loc M M') {i n : Nat} {f : Nat → Int} (hi : Own i) (hr : Ints M i n f) : Ints M' i n f := by
  obtain ⟨a, b, c, d⟩ := h.row i hi
  exact ⟨b.trans hr.1, fun j hj => by rw [d]; exact hr.2 j hj⟩
theorem Loc.val {M M' : Fam} (h : Loc M M') {i : Nat} (hi : Own i) : M'.val i = M.val i := by
  obtain ⟨a, b, c, d⟩ := h.row i hi
  exact val_congr a b c
theorem LocX.ints {X : Nat → Prop} {M M' : Fam} (h : LocX X M M') {i n : Nat} {f : Nat → Int} (hi : Own i) (hx : ¬ X i) (hr : Ints M i n f) : Ints M' i n f := by
  obtain ⟨a, b, c, d⟩ := h.row i hi hx
  exact ⟨b.trans hr.1, fun j hj => by rw [d]; exact hr.2 j hj⟩
theorem LocX.val {X : Nat → Prop} {M M' : Fam} (h : LocX X M M') {i : Nat} (hi : Own i) (hx : ¬ X i) : M'.val i = M.val i := by
  obtain ⟨a, b, c, d⟩ := h.row i hi hx
  exact val_congr a b c

/-- What 'slotOf' captures: 33 the partition, 31 'laid', 24 'blocks', 25 'block', 32 'slotIn'. -/
structure SB (M : Fam) (p N : Nat) (laid slin : Nat → Int) (bl c : Int) : Prop where
  n33 : M.n 33 = 1
  f33 : M.F 33 0 = .pointer (some ⟨p, 0, none⟩)
  n31 : M.n 31 = 1
  f31 : M.F 31 0 = M.val 18
  n32 : M.n 32 = 1
  f32 : M.F 32 0 = M.val 19
  laid : Ints M 18 N laid
  slin : Ints M 19 N slin
  bl : Ints M 24 1 (fun _ => bl)
  c : Ints M 25 1 (fun _ => c)

theorem SB.loc {M M' : Fam} {p N : Nat} {laid slin : Nat → Int} {bl c : Int} (h : SB M p N laid slin bl c) (hl : Loc M M') : SB M' p N laid slin bl c := by
  have o : ∀ i, i = 33 ∨ i = 31 ∨ i = 32 ∨ i = 18 ∨ i = 19 ∨ i = 24 ∨ i = 25 → Own i := fun i hi => by unfold Own; omega
  refine ⟨?_, ?_, ?_, ?_, ?_, ?_, hl.ints (o _ (by omega)) h.laid, hl.ints (o _ (by omega)) h.slin, hl.ints (o _ (by omega)) h.bl, hl.ints (o _ (by omega)) h.c⟩
  · rw [(hl.row 33 (o _ (by omega))).2.1]; exact h.n33
  · rw [(hl.row 33 (o _ (by omega))).2.2.2]; exact h.f33
  · rw [(hl.row 31 (o _ (by omega))).2.1]; exact h.n31
  · rw [(hl.row 31 (o _ (by omega))).2.2.2, hl.val (o 18 (by omega))]; exact h.f31
  · rw [(hl.row 32 (o _ (by omega))).2.1]; exact h.n32
  · rw [(hl.row 32 (o _ (by omega))).2.2.2, hl.val (o 19 (by omega))]; exact h.f32
theorem SB.put {M : Fam} {p N : Nat} {laid slin : Nat → Int} {bl c : Int} (h : SB M p N laid slin bl c) (i : Nat) (x y : Int) : SB ((M.set 18 i (.int .i64 x)).set 19 i (.int .i64 y)) p N (upd laid i x) (upd slin i y) bl c := by
  refine ⟨h.n33, ?_, h.n31, ?_, h.n32, ?_, h.laid.set.set_ne (by omega), (h.slin.set_ne (by omega)).set, (h.bl.set_ne (by omega)).set_ne (by omega), (h.c.set_ne (by omega)).set_ne (by omega)⟩
  · rw [set_F _ (by omega), set_F _ (by omega)]; exact h.f33
  · rw [set_F _ (by omega), set_F _ (by omega)]; exact h.f31
  · rw [set_F _ (by omega), set_F _ (by omega)]; exact h.f32

/-- The slot that stands already. -/
theorem slotOf_have (w : World) (M : Fam) (P : PS) (p N u i q33 q31 q24 q25 q32 : Nat) (laid slin : Nat → Int) (bl c : Int) (hR : Rep KP w M) (hM : PM M P) (hp : M.b 11 = some p) (hB : SB M p N laid slin bl c)
    (b33 : M.b 33 = some q33) (b31 : M.b 31 = some q31) (b24 : M.b 24 = some q24) (b25 : M.b 25 = some q25) (b32 : M.b 32 = some q32) (hu : u < P.nS) (hl : P.loc u = (i : Nat)) (hi : i < N) (hla : laid i = bl) :
    Calls Try.prog 35 #[.int .i64 (u : Int), .pointer (some ⟨q33, 0, none⟩), .pointer (some ⟨q31, 0, none⟩), .pointer (some ⟨q24, 0, none⟩), .pointer (some ⟨q25, 0, none⟩), .pointer (some ⟨q32, 0, none⟩)] w fun e w' => e = .returned (.int .i64 (slin i)) ∧ POut w M w' P := by
  obtain ⟨g3, b3⟩ := hR.hasBlock (i := 3) (by rw [hM.nS]; omega)
  obtain ⟨g18, b18⟩ := hB.laid.pos_block hR (by omega)
  obtain ⟨g19, b19⟩ := hB.slin.pos_block hR (by omega)
  have c33 := (hR.cell b33 (j := 0) (by rw [hB.n33]; decide)).trans (congrArg some hB.f33)
  have c31 := (hR.cell b31 (j := 0) (by rw [hB.n31]; decide)).trans (congrArg some (hB.f31.trans (val_some b18)))
  have c32 := (hR.cell b32 (j := 0) (by rw [hB.n32]; decide)).trans (congrArg some (hB.f32.trans (val_some b19)))
  have c24 := hB.bl.cell hR b24 rfl (show 0 < 1 by omega)
  have c3 := hM.hdr_some hR hp (show 3 < 11 by omega) b3
  have cl := (hR.cell b3 (j := u * 7 + 6) (by rw [hM.nS]; show u * 7 + 6 < P.nS * 7; omega)).trans (congrArg some (hM.loc u hu))
  have ca := hB.laid.cell hR b18 rfl hi
  have cb := hB.slin.cell hR b19 rfl hi
  rw [hl] at cl
  rw [hla] at ca
  have l3 := hR.le_cap 3
  have l18 := hR.le_cap 18
  have l19 := hR.le_cap 19
  rw [hM.nS] at c3 l3
  rw [hB.laid.1] at c31 l18
  rw [hB.slin.1] at c32 l19
  generalize M.cap 3 = k3 at *
  generalize M.cap 18 = k18 at *
  generalize M.cap 19 = k19 at *
  generalize P.nS = nS at *
  have fin : Hid (POut w M w P) := ⟨M, hR, hM, Grew.refl _ _, Loc.refl _⟩
  clear hR hM hB hl hla b3 b18 b19 b33 b31 b24 b25 b32 hp
  go_enter Try.func35, Try.ntmps35
  go_wp2
  go_region
  go_wp2
  go_ret
  refine ⟨rfl, ?_⟩
  exact fin.out.drew
theorem cell_set_other {w : World} {b o : Nat} {a : Addr} {v : Value} (h : b ≠ a.block) : (w.setCell a v).cell? ⟨b, o, none⟩ = w.cell? ⟨b, o, none⟩ := by
  simp only [World.cell?, Below.heap_setCell _ _ _ _ h]

/-- The rows of 'slotOf': 'laid' and 'slotIn'. -/
def XS (i : Nat) : Prop := i = 18 ∨ i = 19

/-- The stages of 'laid[i], slotIn[i] = blocks, p.newSlot(..)'. -/
def SC (w0 : World) (M : Fam) (P1 : PS) (g18 g19 i : Nat) (bl sl : Int) : Nat → World → Prop
  | 0, w' => w' = w0
  | 1, w' => POut w0 M w' P1
  | 2, w' => ∃ w1, POut w0 M w1 P1 ∧ w' = w1.setCell ⟨g18, i, none⟩ (.int .i64 bl)
  | 3, w' => ∃ w1, POut w0 M w1 P1 ∧ w' = (w1.setCell ⟨g18, i, none⟩ (.int .i64 bl)).setCell ⟨g19, i, none⟩ (.int .i64 sl)
  | _, _ => False

set_option maxHeartbeats 1000000 in
/-- A new slot. -/
theorem slotOf_new (w : World) (M : Fam) (P : PS) (p N u i c q33 q31 q24 q25 q32 : Nat) (laid slin : Nat → Int) (bl : Int) (hR : Rep KP w M) (hM : PM M P) (hp : M.b 11 = some p) (hB : SB M p N laid slin bl (c : Nat))
    (b33 : M.b 33 = some q33) (b31 : M.b 31 = some q31) (b24 : M.b 24 = some q24) (b25 : M.b 25 = some q25) (b32 : M.b 32 = some q32) (hu : u < P.nS) (hl : P.loc u = (i : Nat)) (hi : i < N) (hla : laid i ≠ bl)
    (hf : 0 < P.nF → 0 ≤ P.free (P.nF - 1) ∧ P.free (P.nF - 1) < P.nS) (hS : P.nS < 1000000) (hc : c < P.nC) (hm : P.mn c < 1000000) :
    Calls Try.prog 35 #[.int .i64 (u : Int), .pointer (some ⟨q33, 0, none⟩), .pointer (some ⟨q31, 0, none⟩), .pointer (some ⟨q24, 0, none⟩), .pointer (some ⟨q25, 0, none⟩), .pointer (some ⟨q32, 0, none⟩)] w fun e w' => e = .returned (.int .i64 (P.slotNo : Int)) ∧
      ∃ M', Rep KP w' M' ∧ PM M' (P.newSlot (P.node u) c) ∧ Grew M w M' w' ∧ LocX XS M M' ∧ SB M' p N (upd laid i bl) (upd slin i (P.slotNo : Int)) bl (c : Nat) ∧ M'.b 18 = M.b 18 ∧ M'.b 19 = M.b 19 ∧ M'.cap 18 = M.cap 18 ∧ M'.cap 19 = M.cap 19 := by
  obtain ⟨g3, b3⟩ := hR.hasBlock (i := 3) (by rw [hM.nS]; omega)
  obtain ⟨g18, b18⟩ := hB.laid.pos_block hR (by omega)
  obtain ⟨g19, b19⟩ := hB.slin.pos_block hR (by omega)
  have c33 := (hR.cell b33 (j := 0) (by rw [hB.n33]; decide)).trans (congrArg some hB.f33)
  have c31 := (hR.cell b31 (j := 0) (by rw [hB.n31]; decide)).trans (congrArg some (hB.f31.trans (val_some b18)))
  have c32 := (hR.cell b32 (j := 0) (by rw [hB.n32]; decide)).trans (congrArg some (hB.f32.trans (val_some b19)))
  have c24 := hB.bl.cell hR b24 rfl (show 0 < 1 by omega)
  have c25 := hB.c.cell hR b25 rfl (show 0 < 1 by omega)
  have c3 := hM.hdr_some hR hp (show 3 < 11 by omega) b3
  have cl := (hR.cell b3 (j := u * 7 + 6) (by rw [hM.nS]; show u * 7 + 6 < P.nS * 7; omega)).trans (congrArg some (hM.loc u hu))
  have cn := (hR.cell b3 (j := u * 7) (by rw [hM.nS]; show u * 7 < P.nS * 7; omega)).trans (congrArg some (hM.node u hu))
  have ca := hB.laid.cell hR b18 rfl hi
  have cb := hB.slin.cell hR b19 rfl hi
  rw [hl] at cl
  have l3 := hR.le_cap 3
  have l18 := hR.le_cap 18
  have l19 := hR.le_cap 19
  rw [hM.nS] at c3 l3
  rw [hB.laid.1] at c31 l18
  rw [hB.slin.1] at c32 l19
  have call := newSlot_calls w.drew.drew M P p c (P.node u) hR.drew.drew hM hp hf hS hc hm
  have d1 : g18 ≠ g19 := fun e => by have := hR.inj 18 19 g18 b18 (by rw [e]; exact b19); omega
  have d2 : q32 ≠ g18 := fun e => by have := hR.inj 32 18 q32 b32 (by rw [e]; exact b18); omega
  have d3 : q32 ≠ g19 := fun e => by have := hR.inj 32 19 q32 b32 (by rw [e]; exact b19); omega
  have d4 : q31 ≠ g18 := fun e => by have := hR.inj 31 18 q31 b31 (by rw [e]; exact b18); omega
  have d5 : q31 ≠ g19 := fun e => by have := hR.inj 31 19 q31 b31 (by rw [e]; exact b19); omega
  have d6 : q24 ≠ g18 := fun e => by have := hR.inj 24 18 q24 b24 (by rw [e]; exact b18); omega
  have d7 : q24 ≠ g19 := fun e => by have := hR.inj 24 19 q24 b24 (by rw [e]; exact b19); omega
  have HC : Hid (Calls Try.prog 31 #[.pointer (some ⟨p, 0, none⟩), .int .i64 (P.node u), .int .i64 (c : Int)] w.drew.drew fun e w' => e = .returned (.int .i64 (P.slotNo : Int)) ∧ POut w.drew.drew M w' (P.newSlot (P.node u) c)) := call
  have K : Hid (∀ w2, POut w.drew.drew M w2 (P.newSlot (P.node u) c) →
      w2.cell? ⟨q31, 0, none⟩ = some (.slice (some ⟨g18, 0, none⟩) N (M.cap 18)) ∧ w2.cell? ⟨q32, 0, none⟩ = some (.slice (some ⟨g19, 0, none⟩) N (M.cap 19)) ∧ w2.cell? ⟨q24, 0, none⟩ = some (.int .i64 bl) ∧
      (∃ x, w2.cell? ⟨g18, i, none⟩ = some x) ∧ (∃ x, w2.cell? ⟨g19, i, none⟩ = some x) ∧ w2.frozen? ⟨g18, i, none⟩ = false ∧ w2.frozen? ⟨g19, i, none⟩ = false ∧
      ∃ M', Rep KP ((w2.setCell ⟨g18, i, none⟩ (.int .i64 bl)).setCell ⟨g19, i, none⟩ (.int .i64 (P.slotNo : Int))) M' ∧ PM M' (P.newSlot (P.node u) c) ∧ Grew M w M' ((w2.setCell ⟨g18, i, none⟩ (.int .i64 bl)).setCell ⟨g19, i, none⟩ (.int .i64 (P.slotNo : Int))) ∧ LocX XS M M' ∧ SB M' p N (upd laid i bl) (upd slin i (P.slotNo : Int)) bl (c : Nat) ∧ M'.b 18 = M.b 18 ∧ M'.b 19 = M.b 19 ∧ M'.cap 18 = M.cap 18 ∧ M'.cap 19 = M.cap 19) := by
    intro w2 ⟨M2, r2, m2, g2, o2⟩
    have sb := hB.loc o2
    have e18 := o2.row 18 (by unfold Own; omega)
    have e19 := o2.row 19 (by unfold Own; omega)
    have e31 := o2.row 31 (by unfold Own; omega)
    have e32 := o2.row 32 (by unfold Own; omega)
    have e24 := o2.row 24 (by unfold Own; omega)
    have v18 : M2.val 18 = .slice (some ⟨g18, 0, none⟩) N (M.cap 18) := by rw [val_congr e18.1 e18.2.1 e18.2.2.1, val_some b18, hB.laid.1]
    have v19 : M2.val 19 = .slice (some ⟨g19, 0, none⟩) N (M.cap 19) := by rw [val_congr e19.1 e19.2.1 e19.2.2.1, val_some b19, hB.slin.1]
    refine ⟨(r2.cell (e31.1.trans b31) (j := 0) (by rw [sb.n31]; decide)).trans (congrArg some (sb.f31.trans v18)), (r2.cell (e32.1.trans b32) (j := 0) (by rw [sb.n32]; decide)).trans (congrArg some (sb.f32.trans v19)), sb.bl.cell r2 (e24.1.trans b24) rfl (by omega), ⟨_, sb.laid.cell r2 (e18.1.trans b18) rfl hi⟩, ⟨_, sb.slin.cell r2 (e19.1.trans b19) rfl hi⟩, r2.frozen (e18.1.trans b18) _, r2.frozen (e19.1.trans b19) _, ?_⟩
    refine ⟨_, (r2.set (e18.1.trans b18) i (.int .i64 bl)).set (i := 19) (e19.1.trans b19) i _, (m2.set_local (by omega) _ _).set_local (by omega) _ _, ?_, (o2.toX.set (.inr (.inl rfl))).set (.inr (.inr rfl)), sb.put i bl _, e18.1, e19.1, e18.2.2.1, e19.2.2.1⟩
    exact (((Grew.refl M w).drew.drew.trans g2).set ⟨18, e18.1.trans b18⟩ _ _ _ _).set ⟨19, e19.1.trans b19⟩ _ _ _ _
  generalize M.cap 3 = k3 at *
  generalize M.cap 18 = k18 at *
  generalize M.cap 19 = k19 at *
  generalize P.nS = nS at *
  clear hR hM hB hl b3 b18 b19 b33 b31 b24 b25 b32 hp hf hS hc hm call
  go_enter Try.func35, Try.ntmps35
  go_wp2
  go_region
  go_wp2
  have FK : Hid (∀ k w', k ≤ 1 → SC w.drew.drew M (P.newSlot (P.node u) c) g18 g19 i bl (P.slotNo : Int) k w' → w'.cell? ⟨q31, 0, none⟩ = some (.slice (some ⟨g18, 0, none⟩) N k18) ∧ w'.cell? ⟨q32, 0, none⟩ = some (.slice (some ⟨g19, 0, none⟩) N k19) ∧ w'.cell? ⟨q24, 0, none⟩ = some (.int .i64 bl)) := by
    intro k w' hk hw
    match k, hk with
    | 0, _ =>
      have hw : w' = w.drew.drew := hw
      subst hw
      exact ⟨c31, c32, c24⟩
    | 1, _ =>
      obtain ⟨y1, y2, y3, _⟩ := K.out w' hw
      exact ⟨y1, y2, y3⟩
  have FL : Hid (∀ k w', k ≤ 2 → SC w.drew.drew M (P.newSlot (P.node u) c) g18 g19 i bl (P.slotNo : Int) k w' → w'.cell? ⟨q32, 0, none⟩ = some (.slice (some ⟨g19, 0, none⟩) N k19)) := by
    intro k w' hk hw
    match k, hk with
    | 0, _ => exact (FK.out 0 w' (by omega) hw).2.1
    | 1, _ => exact (FK.out 1 w' (by omega) hw).2.1
    | 2, _ =>
      obtain ⟨w1, hP, hw⟩ := hw
      subst hw
      obtain ⟨y1, y2, y3, _⟩ := K.out w1 hP
      rw [cell_set_other d2]
      exact y2
  refine wp_region_stage (SC w.drew.drew M (P.newSlot (P.node u) c) g18 g19 i bl (P.slotNo : Int)) [15, 17, 19] (fun i => if i = 2 ∨ i = 3 then 2 else if i < 5 then 1 else if i < 15 then 0 else if i < 18 then 1 else 2) (by kernel_rfl) (by kernel_rfl) rfl ?_
  refine wpStage_read rfl rfl ?_
  apply Exists.intro
  refine ⟨fun k w' hk hw => ?_, ?_⟩
  · obtain ⟨f1, f2, f3⟩ := FK.out k w' hk hw
    go_simp
    first | rfl | exact ⟨rfl, hw⟩
  go_simp
  refine wpStage_read rfl rfl ?_
  apply Exists.intro
  refine ⟨fun k w' hk hw => ?_, ?_⟩
  · go_simp
    first | rfl | exact ⟨rfl, hw⟩
  go_simp
  refine wpStage_read rfl rfl ?_
  apply Exists.intro
  refine ⟨fun k w' hk hw => ?_, ?_⟩
  · have f2 := FL.out k w' hk hw
    go_simp
    first | rfl | exact ⟨rfl, hw⟩
  go_simp
  refine wpStage_read rfl rfl ?_
  apply Exists.intro
  refine ⟨fun k w' hk hw => ?_, ?_⟩
  · go_simp
    first | rfl | exact ⟨rfl, hw⟩
  go_simp
  refine wpStage_read rfl rfl ?_
  apply Exists.intro
  refine ⟨fun k w' hk hw => ?_, ?_⟩
  · obtain ⟨f1, f2, f3⟩ := FK.out k w' hk hw
    go_simp
    first | rfl | exact ⟨rfl, hw⟩
  go_simp
  refine wpStage_read rfl rfl ?_
  apply Exists.intro
  refine ⟨fun k w' hk hw => ?_, ?_⟩
  · have hk : k = 0 := Nat.le_zero.1 hk
    subst hk
    have hw : w' = w.drew.drew := hw
    subst hw
    go_simp
    first | rfl | exact ⟨rfl, rfl⟩
  go_simp
  refine wpStage_read rfl rfl ?_
  apply Exists.intro
  refine ⟨fun k w' hk hw => ?_, ?_⟩
  · have hk : k = 0 := Nat.le_zero.1 hk
    subst hk
    have hw : w' = w.drew.drew := hw
    subst hw
    go_simp
    first | rfl | exact ⟨rfl, rfl⟩
  go_simp
  refine wpStage_read rfl rfl ?_
  apply Exists.intro
  refine ⟨fun k w' hk hw => ?_, ?_⟩
  · have hk : k = 0 := Nat.le_zero.1 hk
    subst hk
    have hw : w' = w.drew.drew := hw
    subst hw
    go_simp
    first | rfl | exact ⟨rfl, rfl⟩
  go_simp
  refine wpStage_read rfl rfl ?_
  apply Exists.intro
  refine ⟨fun k w' hk hw => ?_, ?_⟩
  · have hk : k = 0 := Nat.le_zero.1 hk
    subst hk
    have hw : w' = w.drew.drew := hw
    subst hw
    go_simp
    first | rfl | exact ⟨rfl, rfl⟩
  go_simp
  refine wpStage_read rfl rfl ?_
  apply Exists.intro
  refine ⟨fun k w' hk hw => ?_, ?_⟩
  · have hk : k = 0 := Nat.le_zero.1 hk
    subst hk
    have hw : w' = w.drew.drew := hw
    subst hw
    go_simp
    first | rfl | exact ⟨rfl, rfl⟩
  go_simp
  refine wpStage_read rfl rfl ?_
  apply Exists.intro
  refine ⟨fun k w' hk hw => ?_, ?_⟩
  · have hk : k = 0 := Nat.le_zero.1 hk
    subst hk
    have hw : w' = w.drew.drew := hw
    subst hw
    go_simp
    first | rfl | exact ⟨rfl, rfl⟩
  go_simp
  refine wpStage_read rfl rfl ?_
  apply Exists.intro
  refine ⟨fun k w' hk hw => ?_, ?_⟩
  · have hk : k = 0 := Nat.le_zero.1 hk
    subst hk
    have hw : w' = w.drew.drew := hw
    subst hw
    go_simp
    first | rfl | exact ⟨rfl, rfl⟩
  go_simp
  refine wpStage_read rfl rfl ?_
  apply Exists.intro
  refine ⟨fun k w' hk hw => ?_, ?_⟩
  · have hk : k = 0 := Nat.le_zero.1 hk
    subst hk
    have hw : w' = w.drew.drew := hw
    subst hw
    go_simp
    first | rfl | exact ⟨rfl, rfl⟩
  go_simp
  refine wpStage_read rfl rfl ?_
  apply Exists.intro
  refine ⟨fun k w' hk hw => ?_, ?_⟩
  · have hk : k = 0 := Nat.le_zero.1 hk
    subst hk
    have hw : w' = w.drew.drew := hw
    subst hw
    go_simp
    first | rfl | exact ⟨rfl, rfl⟩
  go_simp
  refine wpStage_read rfl rfl ?_
  apply Exists.intro
  refine ⟨fun k w' hk hw => ?_, ?_⟩
  · have hk : k = 0 := Nat.le_zero.1 hk
    subst hk
    have hw : w' = w.drew.drew := hw
    subst hw
    go_simp
    first | rfl | exact ⟨rfl, rfl⟩
  go_simp
  refine wpStage_move rfl rfl ?_
  apply Exists.intro
  refine ⟨fun w' hw => ?_, ?_⟩
  · have hw : w' = w.drew.drew := hw
    subst hw
    go_simp
    exact HC.out
  go_simp
  refine wpStage_read rfl rfl ?_
  apply Exists.intro
  refine ⟨fun k w' hk hw => ?_, ?_⟩
  · go_simp
    first | rfl | exact ⟨rfl, hw⟩
  go_simp
  refine wpStage_move rfl rfl ?_
  apply Exists.intro
  refine ⟨fun w' hw => ?_, ?_⟩
  · obtain ⟨y1, y2, y3, ⟨x1, y4⟩, ⟨x2, y5⟩, y6, y7, Y8⟩ := K.out w' hw
    clear y1 y2 y3 y5 y7 Y8
    go_simp
    exact ⟨rfl, w', hw, rfl⟩
  go_simp
  refine wpStage_read rfl rfl ?_
  apply Exists.intro
  refine ⟨fun k w' hk hw => ?_, ?_⟩
  · go_simp
    first | rfl | exact ⟨rfl, hw⟩
  go_simp
  refine wpStage_move rfl rfl ?_
  apply Exists.intro
  refine ⟨fun w' hw => ?_, ?_⟩
  · obtain ⟨w1, hP, hw⟩ := hw
    subst hw
    obtain ⟨y1, y2, y3, ⟨x1, y4⟩, ⟨x2, y5⟩, y6, y7, Y8⟩ := K.out w1 hP
    clear y1 y2 y3 Y8
    go_simp
    exact ⟨rfl, w1, hP, rfl⟩
  go_simp
  intro w' hw
  obtain ⟨w1, hP, hw⟩ := hw
  subst hw
  obtain ⟨y1, y2, y3, ⟨x1, y4⟩, ⟨x2, y5⟩, y6, y7, Y8⟩ := K.out w1 hP
  clear hP
  go_wp2
  go_ret
  exact ⟨rfl, Y8⟩
end Go.Proofs.Qxb6602148a
