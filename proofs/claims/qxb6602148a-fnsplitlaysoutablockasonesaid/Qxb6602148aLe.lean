/-
  The second law: its loops.
-/
import Derived.Test.Qxb6602148aLd
attribute [local go_sem] Go.Proofs.Qxb6602148a.yTo Go.Proofs.Qxb6602148a.yUpon
namespace Go.Proofs.Qxb6602148a
open Go.RowKit
set_option linter.unusedVariables false
set_option linter.unusedSimpArgs false

/-- What the loops are told: P before, P2 behind; component c has become D0. -/
structure L2In (wb : World) (gB gM gA : Nat) (E : Nat) (P P2 : PS) (c D0 : Nat) : Prop where
  vb : VIn wb gB P
  va : VIn wb gA P2
  m1 : ∃ f, Rdi wb gM 1 E f
  nE : P.nE = E
  nE2 : P2.nE = E
  sm : E ≤ 4096 ∧ P.nS ≤ 200000 ∧ P.nC ≤ 200000 ∧ P2.nS ≤ 200000 ∧ P2.nC ≤ 200000
  ec : ∀ e, e < E → (∃ f f2 : Nat, P.fr e = (f : Int) ∧ f < P.nS ∧ P.comp f = (c : Int) ∧ P2.fr e = (f2 : Int) ∧ f2 < P2.nS ∧ P2.comp f2 = (D0 : Int)) ∨ ((P.fr e = -1 ∨ ∃ f d : Nat, P.fr e = (f : Int) ∧ f < P.nS ∧ P.comp f = (d : Int) ∧ d ≠ c) ∧ P2.fr e = P.fr e ∧ P2.to e = P.to e)
  ex : ∃ e f : Nat, e < E ∧ P.fr e = (f : Int) ∧ P.comp f = (c : Int)
  Dc : D0 ≠ c
  Du : ¬ InU P (D0 : Int)
  cc : c < P.nC ∧ D0 < P2.nC
  mem : ∀ k, k < P.nC → k ≠ c → k ≠ D0 → P2.mn k = P.mn k ∧ P2.mem k = P.mem k ∧ P2.edg k = P.edg k
  nCC : P.nC ≤ P2.nC
  mnb : ∀ k, k < P.nC → P.mn k ≤ 1000000
structure F4 (gB gM gA c : Nat) (a : Act) : Prop where
  sz : a.tmps.size = 180
  df : a.defers = []
  s1 : a.tmps.getD 1 undef = .int .i64 (c : Int)
  s6 : a.tmps.getD 6 undef = .pointer (some ⟨gB, 0, none⟩)
  s7 : a.tmps.getD 7 undef = .pointer (some ⟨gM, 0, none⟩)
  s8 : a.tmps.getD 8 undef = .pointer (some ⟨gA, 0, none⟩)
set_option maxRecDepth 40000 in
theorem arr_180 (arr : Array Value) (h : arr.size = 180) : ∃ y : Nat → Value, arr = #[y 0, y 1, y 2, y 3, y 4, y 5, y 6, y 7, y 8, y 9, y 10, y 11, y 12, y 13, y 14, y 15, y 16, y 17, y 18, y 19, y 20, y 21, y 22, y 23, y 24, y 25, y 26, y 27, y 28, y 29, y 30, y 31, y 32, y 33, y 34, y 35, y 36, y 37, y 38, y 39, y 40, y 41, y 42, y 43, y 44, y 45, y 46, y 47, y 48, y 49, y 50, y 51, y 52, y 53, y 54, y 55, y 56, y 57, y 58, y 59, y 60, y 61, y 62, y 63, y 64, y 65, y 66, y 67, y 68, y 69, y 70, y 71, y 72, y 73, y 74, y 75, y 76, y 77, y 78, y 79, y 80, y 81, y 82, y 83, y 84, y 85, y 86, y 87, y 88, y 89, y 90, y 91, y 92, y 93, y 94, y 95, y 96, y 97, y 98, y 99, y 100, y 101, y 102, y 103, y 104, y 105, y 106, y 107, y 108, y 109, y 110, y 111, y 112, y 113, y 114, y 115, y 116, y 117, y 118, y 119, y 120, y 121, y 122, y 123, y 124, y 125, y 126, y 127, y 128, y 129, y 130, y 131, y 132, y 133, y 134, y 135, y 136, y 137, y 138, y 139, y 140, y 141, y 142, y 143, y 144, y 145, y 146, y 147, y 148, y 149, y 150, y 151, y 152, y 153, y 154, y 155, y 156, y 157, y 158, y 159, y 160, y 161, y 162, y 163, y 164, y 165, y 166, y 167, y 168, y 169, y 170, y 171, y 172, y 173, y 174, y 175, y 176, y 177, y 178, y 179] ∧ ∀ i, y i = arr.getD i undef := by
  refine ⟨fun i => arr.getD i undef, ?_, fun _ => rfl⟩
  exact (arr_map arr 180 h undef).trans (by kernel_rfl)
set_option maxRecDepth 40000 in
theorem l4a {a : Act} {u1 u6 u7 u8 : Value} (hs : a.tmps.size = 180) (hd : a.defers = []) (h1 : a.tmps.getD 1 undef = u1) (h6 : a.tmps.getD 6 undef = u6) (h7 : a.tmps.getD 7 undef = u7) (h8 : a.tmps.getD 8 undef = u8) : ∃ y : Nat → Value, a = { tmps := #[y 0, u1, y 2, y 3, y 4, y 5, u6, u7, u8, y 9, y 10, y 11, y 12, y 13, y 14, y 15, y 16, y 17, y 18, y 19, y 20, y 21, y 22, y 23, y 24, y 25, y 26, y 27, y 28, y 29, y 30, y 31, y 32, y 33, y 34, y 35, y 36, y 37, y 38, y 39, y 40, y 41, y 42, y 43, y 44, y 45, y 46, y 47, y 48, y 49, y 50, y 51, y 52, y 53, y 54, y 55, y 56, y 57, y 58, y 59, y 60, y 61, y 62, y 63, y 64, y 65, y 66, y 67, y 68, y 69, y 70, y 71, y 72, y 73, y 74, y 75, y 76, y 77, y 78, y 79, y 80, y 81, y 82, y 83, y 84, y 85, y 86, y 87, y 88, y 89, y 90, y 91, y 92, y 93, y 94, y 95, y 96, y 97, y 98, y 99, y 100, y 101, y 102, y 103, y 104, y 105, y 106, y 107, y 108, y 109, y 110, y 111, y 112, y 113, y 114, y 115, y 116, y 117, y 118, y 119, y 120, y 121, y 122, y 123, y 124, y 125, y 126, y 127, y 128, y 129, y 130, y 131, y 132, y 133, y 134, y 135, y 136, y 137, y 138, y 139, y 140, y 141, y 142, y 143, y 144, y 145, y 146, y 147, y 148, y 149, y 150, y 151, y 152, y 153, y 154, y 155, y 156, y 157, y 158, y 159, y 160, y 161, y 162, y 163, y 164, y 165, y 166, y 167, y 168, y 169, y 170, y 171, y 172, y 173, y 174, y 175, y 176, y 177, y 178, y 179], defers := [] } := by
  obtain ⟨tmps, defers⟩ := a
  have yd : defers = [] := hd
  subst yd
  obtain ⟨y, hy, hi⟩ := arr_180 tmps hs
  have e1 := (hi 1).trans h1
  have e6 := (hi 6).trans h6
  have e7 := (hi 7).trans h7
  have e8 := (hi 8).trans h8
  rw [e1, e6, e7, e8] at hy
  exact ⟨y, congrArg (fun t => (⟨t, []⟩ : Act)) hy⟩
set_option maxRecDepth 40000 in
theorem l4b {a : Act} {u1 u6 u7 u8 u9 : Value} (hs : a.tmps.size = 180) (hd : a.defers = []) (h1 : a.tmps.getD 1 undef = u1) (h6 : a.tmps.getD 6 undef = u6) (h7 : a.tmps.getD 7 undef = u7) (h8 : a.tmps.getD 8 undef = u8) (h9 : a.tmps.getD 9 undef = u9) : ∃ y : Nat → Value, a = { tmps := #[y 0, u1, y 2, y 3, y 4, y 5, u6, u7, u8, u9, y 10, y 11, y 12, y 13, y 14, y 15, y 16, y 17, y 18, y 19, y 20, y 21, y 22, y 23, y 24, y 25, y 26, y 27, y 28, y 29, y 30, y 31, y 32, y 33, y 34, y 35, y 36, y 37, y 38, y 39, y 40, y 41, y 42, y 43, y 44, y 45, y 46, y 47, y 48, y 49, y 50, y 51, y 52, y 53, y 54, y 55, y 56, y 57, y 58, y 59, y 60, y 61, y 62, y 63, y 64, y 65, y 66, y 67, y 68, y 69, y 70, y 71, y 72, y 73, y 74, y 75, y 76, y 77, y 78, y 79, y 80, y 81, y 82, y 83, y 84, y 85, y 86, y 87, y 88, y 89, y 90, y 91, y 92, y 93, y 94, y 95, y 96, y 97, y 98, y 99, y 100, y 101, y 102, y 103, y 104, y 105, y 106, y 107, y 108, y 109, y 110, y 111, y 112, y 113, y 114, y 115, y 116, y 117, y 118, y 119, y 120, y 121, y 122, y 123, y 124, y 125, y 126, y 127, y 128, y 129, y 130, y 131, y 132, y 133, y 134, y 135, y 136, y 137, y 138, y 139, y 140, y 141, y 142, y 143, y 144, y 145, y 146, y 147, y 148, y 149, y 150, y 151, y 152, y 153, y 154, y 155, y 156, y 157, y 158, y 159, y 160, y 161, y 162, y 163, y 164, y 165, y 166, y 167, y 168, y 169, y 170, y 171, y 172, y 173, y 174, y 175, y 176, y 177, y 178, y 179], defers := [] } := by
  obtain ⟨tmps, defers⟩ := a
  have yd : defers = [] := hd
  subst yd
  obtain ⟨y, hy, hi⟩ := arr_180 tmps hs
  have e1 := (hi 1).trans h1
  have e6 := (hi 6).trans h6
  have e7 := (hi 7).trans h7
  have e8 := (hi 8).trans h8
  have e9 := (hi 9).trans h9
  rw [e1, e6, e7, e8, e9] at hy
  exact ⟨y, congrArg (fun t => (⟨t, []⟩ : Act)) hy⟩
set_option maxRecDepth 40000 in
theorem l4c {a : Act} {u1 u6 u7 u8 u9 u10 : Value} (hs : a.tmps.size = 180) (hd : a.defers = []) (h1 : a.tmps.getD 1 undef = u1) (h6 : a.tmps.getD 6 undef = u6) (h7 : a.tmps.getD 7 undef = u7) (h8 : a.tmps.getD 8 undef = u8) (h9 : a.tmps.getD 9 undef = u9) (h10 : a.tmps.getD 10 undef = u10) : ∃ y : Nat → Value, a = { tmps := #[y 0, u1, y 2, y 3, y 4, y 5, u6, u7, u8, u9, u10, y 11, y 12, y 13, y 14, y 15, y 16, y 17, y 18, y 19, y 20, y 21, y 22, y 23, y 24, y 25, y 26, y 27, y 28, y 29, y 30, y 31, y 32, y 33, y 34, y 35, y 36, y 37, y 38, y 39, y 40, y 41, y 42, y 43, y 44, y 45, y 46, y 47, y 48, y 49, y 50, y 51, y 52, y 53, y 54, y 55, y 56, y 57, y 58, y 59, y 60, y 61, y 62, y 63, y 64, y 65, y 66, y 67, y 68, y 69, y 70, y 71, y 72, y 73, y 74, y 75, y 76, y 77, y 78, y 79, y 80, y 81, y 82, y 83, y 84, y 85, y 86, y 87, y 88, y 89, y 90, y 91, y 92, y 93, y 94, y 95, y 96, y 97, y 98, y 99, y 100, y 101, y 102, y 103, y 104, y 105, y 106, y 107, y 108, y 109, y 110, y 111, y 112, y 113, y 114, y 115, y 116, y 117, y 118, y 119, y 120, y 121, y 122, y 123, y 124, y 125, y 126, y 127, y 128, y 129, y 130, y 131, y 132, y 133, y 134, y 135, y 136, y 137, y 138, y 139, y 140, y 141, y 142, y 143, y 144, y 145, y 146, y 147, y 148, y 149, y 150, y 151, y 152, y 153, y 154, y 155, y 156, y 157, y 158, y 159, y 160, y 161, y 162, y 163, y 164, y 165, y 166, y 167, y 168, y 169, y 170, y 171, y 172, y 173, y 174, y 175, y 176, y 177, y 178, y 179], defers := [] } := by
  obtain ⟨tmps, defers⟩ := a
  have yd : defers = [] := hd
  subst yd
  obtain ⟨y, hy, hi⟩ := arr_180 tmps hs
  have e1 := (hi 1).trans h1
  have e6 := (hi 6).trans h6
  have e7 := (hi 7).trans h7
  have e8 := (hi 8).trans h8
  have e9 := (hi 9).trans h9
  have e10 := (hi 10).trans h10
  rw [e1, e6, e7, e8, e9, e10] at hy
  exact ⟨y, congrArg (fun t => (⟨t, []⟩ : Act)) hy⟩
set_option maxRecDepth 40000 in
theorem l4d {a : Act} {u1 u6 u7 u8 u9 u13 : Value} (hs : a.tmps.size = 180) (hd : a.defers = []) (h1 : a.tmps.getD 1 undef = u1) (h6 : a.tmps.getD 6 undef = u6) (h7 : a.tmps.getD 7 undef = u7) (h8 : a.tmps.getD 8 undef = u8) (h9 : a.tmps.getD 9 undef = u9) (h13 : a.tmps.getD 13 undef = u13) : ∃ y : Nat → Value, a = { tmps := #[y 0, u1, y 2, y 3, y 4, y 5, u6, u7, u8, u9, y 10, y 11, y 12, u13, y 14, y 15, y 16, y 17, y 18, y 19, y 20, y 21, y 22, y 23, y 24, y 25, y 26, y 27, y 28, y 29, y 30, y 31, y 32, y 33, y 34, y 35, y 36, y 37, y 38, y 39, y 40, y 41, y 42, y 43, y 44, y 45, y 46, y 47, y 48, y 49, y 50, y 51, y 52, y 53, y 54, y 55, y 56, y 57, y 58, y 59, y 60, y 61, y 62, y 63, y 64, y 65, y 66, y 67, y 68, y 69, y 70, y 71, y 72, y 73, y 74, y 75, y 76, y 77, y 78, y 79, y 80, y 81, y 82, y 83, y 84, y 85, y 86, y 87, y 88, y 89, y 90, y 91, y 92, y 93, y 94, y 95, y 96, y 97, y 98, y 99, y 100, y 101, y 102, y 103, y 104, y 105, y 106, y 107, y 108, y 109, y 110, y 111, y 112, y 113, y 114, y 115, y 116, y 117, y 118, y 119, y 120, y 121, y 122, y 123, y 124, y 125, y 126, y 127, y 128, y 129, y 130, y 131, y 132, y 133, y 134, y 135, y 136, y 137, y 138, y 139, y 140, y 141, y 142, y 143, y 144, y 145, y 146, y 147, y 148, y 149, y 150, y 151, y 152, y 153, y 154, y 155, y 156, y 157, y 158, y 159, y 160, y 161, y 162, y 163, y 164, y 165, y 166, y 167, y 168, y 169, y 170, y 171, y 172, y 173, y 174, y 175, y 176, y 177, y 178, y 179], defers := [] } := by
  obtain ⟨tmps, defers⟩ := a
  have yd : defers = [] := hd
  subst yd
  obtain ⟨y, hy, hi⟩ := arr_180 tmps hs
  have e1 := (hi 1).trans h1
  have e6 := (hi 6).trans h6
  have e7 := (hi 7).trans h7
  have e8 := (hi 8).trans h8
  have e9 := (hi 9).trans h9
  have e13 := (hi 13).trans h13
  rw [e1, e6, e7, e8, e9, e13] at hy
  exact ⟨y, congrArg (fun t => (⟨t, []⟩ : Act)) hy⟩

/-- The new component, once an edge of the old one has been met. -/
def Dv (P : PS) (E c D0 e : Nat) (dv : Int) : Prop := dv = (D0 : Int) ∨ (dv = -1 ∧ ∀ e' f : Nat, e' < e → P.fr e' = (f : Int) → P.comp f = (c : Int) → False)
def L4a (wb : World) (gB gM gA E : Nat) (P : PS) (c D0 : Nat) (a : Act) (w : World) : Prop :=
  F4 gB gM gA c a ∧ ∃ (e : Nat) (dv : Int), a.tmps.getD 9 undef = .int .i64 dv ∧ a.tmps.getD 10 undef = .int .i64 (e : Int) ∧ e ≤ E ∧ Dv P E c D0 e dv ∧ ∃ k, w = wb.drewN k
def f4e (c : Code) : Code := bl (sL (tl 1 (lp (bl (tl 1 (sL (tl 15 c)))))))
def f4k (c : Code) : Code := bl (sL (tl 1 (lp (bl (tl 1 (sL (tl 17 c)))))))

set_option maxRecDepth 40000 in
set_option maxHeartbeats 8000000 in
/-- The edges. -/
theorem l2_a (wb : World) (gB gM gA : Nat) (E : Nat) (P P2 : PS) (c D0 : Nat) (hin : L2In wb gB gM gA E P P2 c D0) (a : Act) (hf : F4 gB gM gA c a) (h9 : a.tmps.getD 9 undef = .int .i64 (-1)) (Q : Exit → Act → World → Prop)
    (hC : ∀ (a : Act) (k : Nat), F4 gB gM gA c a → a.tmps.getD 9 undef = .int .i64 (D0 : Int) → Q .normal a (wb.drewN k)) :
    Code.wp Try.prog (sL (tl 15 (Try.f4.body.getD .skip))) Q a wb := by
  obtain ⟨y, rfl⟩ := l4b hf.sz hf.df hf.s1 hf.s6 hf.s7 hf.s8 h9
  obtain ⟨hE, hS, hCC, hS2, hC2⟩ := hin.sm
  have nE := hin.nE
  have nE2 := hin.nE2
  have HIN : Hid (L2In wb gB gM gA E P P2 c D0) := hin
  have HC : Hid (∀ (a : Act) (k : Nat), F4 gB gM gA c a → a.tmps.getD 9 undef = .int .i64 (D0 : Int) → Q .normal a (wb.drewN k)) := hC
  clear hf hC hin h9
  show Code.wp Try.prog (Code.seq _ (Code.block 0 (Code.loop (Code.seq (Code.seq _ (Code.cond (.tmp 68) Code.skip (Code.exit 0))) (Code.seq (Code.block 1 (f4e (Try.f4.body.getD .skip))) _))))) Q _ wb
  refine wp_seq_k (fun K1 hK => ?_)
  have HK1 : Hid (∀ (a : Act) (w : World), _ → K1 a w) := hK
  clear hK
  go_wp2
  refine HK1.out _ _ ?_
  clear HK1 K1
  refine wp_block ?_
  refine wp_loop (L4a wb gB gM gA E P c D0) (fun a _ => mus 10 E a) ⟨⟨by kernel_rfl, by kernel_rfl, by kernel_rfl, by kernel_rfl, by kernel_rfl, by kernel_rfl⟩, 0, -1, by kernel_rfl, by kernel_rfl, Nat.zero_le _, .inr ⟨rfl, fun e' f h => absurd h (Nat.not_lt_zero _)⟩, 0, rfl⟩ ?_
  clear y
  rintro a w' ⟨hf, e, dv, h9, h10, e1, hDv, k, rfl⟩
  have e10 : mus 10 E a = E - e := congrArg (fun v => E - (intOf v).toNat) h10
  obtain ⟨y2, rfl⟩ := l4c hf.sz hf.df hf.s1 hf.s6 hf.s7 hf.s8 h9 h10
  rw [e10]
  clear e10 hf h9 h10
  have HDv : Hid (Dv P E c D0 e dv) := hDv
  clear hDv
  have HG : Hid (Grew Fam.nil wb Fam.nil (wb.drewN k)) := (Grew.refl Fam.nil wb).drewN k
  have HDD : Hid (∀ j, ∃ q, (wb.drewN k).drewN j = wb.drewN q) := fun j => drewN_drewN wb k j
  obtain ⟨fm, hfm⟩ := HIN.out.m1
  obtain ⟨om, km, m1⟩ := hfm.len HG.out
  clear hfm
  refine wp_seq_k (fun K1 hK => ?_)
  have HK1 : Hid (∀ (a : Act) (w : World), _ → K1 a w) := hK
  clear hK
  refine wp_seq_k (fun K2 hK => ?_)
  have HK2 : Hid (∀ (a : Act) (w : World), _ → K2 a w) := hK
  clear hK
  by_cases he : e < E
  · have hee : (e : Int) < (E : Int) := by omega
    have END : Hid (∀ (K : Act → World → Prop), (∀ (a : Act) (w : World), Code.wp Try.prog (tl 1 (tl 1 (lp (bl (tl 1 (sL (tl 15 (Try.f4.body.getD .skip)))))))) (fun ex a' w' => Exit.then (fun a' w' => L4a wb gB gM gA E P c D0 a' w' ∧ mus 10 E a' < E - e) (Exit.inBlock 0 Q) ex a' w') a w → K a w) → ∀ (a : Act) (q : Nat) (dv : Int), F4 gB gM gA c a → a.tmps.getD 9 undef = .int .i64 dv → a.tmps.getD 10 undef = .int .i64 (e : Int) → Dv P E c D0 (e + 1) dv → K a (wb.drewN q)) := by
      intro K hK a q dv hf h9 h10 hD
      obtain ⟨y5, rfl⟩ := l4c hf.sz hf.df hf.s1 hf.s6 hf.s7 hf.s8 h9 h10
      have HD : Hid (Dv P E c D0 (e + 1) dv) := hD
      refine hK _ _ ?_
      clear hf h9 h10 hK hD HG HDD m1 HK1 HK2
      have HQ : Hid (∃ q', wb.drewN q = wb.drewN q') := ⟨q, rfl⟩
      generalize wb.drewN q = wq at *
      simp only [tl, lp, bl, sL, Try.f4, Option.getD]
      go_wp2
      obtain ⟨q', hq'⟩ := HQ.out
      exact ⟨⟨⟨by kernel_rfl, by kernel_rfl, by kernel_rfl, by kernel_rfl, by kernel_rfl, by kernel_rfl⟩, e + 1, dv, by kernel_rfl, by kernel_rfl, by omega, HD.out, q', hq'⟩, Nat.lt_of_le_of_lt (Nat.le_of_eq (by kernel_rfl : _ = E - (e + 1))) (by omega)⟩
    go_wp2
    refine HK2.out _ _ (wp_cond_true (by kernel_rfl) (wp_skip ?_))
    refine HK1.out _ _ ?_
    clear HK1 K1 HK2 K2
    refine wp_seq_k (fun K1 hK => ?_)
    have END1 : Hid (∀ (a : Act) (q : Nat) (dv : Int), F4 gB gM gA c a → a.tmps.getD 9 undef = .int .i64 dv → a.tmps.getD 10 undef = .int .i64 (e : Int) → Dv P E c D0 (e + 1) dv → K1 a (wb.drewN q)) := END.out K1 hK
    clear hK END m1
    obtain ⟨b0, k0, x1, x2, x3⟩ := HIN.out.vb.v0.at HG.out (j := e) (by omega)
    rw [nE] at x1 x2
    refine wp_block ?_
    rcases HIN.out.ec e he with ⟨f, f2, p1, p2, p3, p4, p5, p6⟩ | ⟨p1, p2, p3⟩
    · -- an edge of the component
      obtain ⟨b3, k3, z1, z2, z3⟩ := HIN.out.vb.v3.at HG.out p2
      obtain ⟨b4, k4, u1, u2, u3⟩ := HIN.out.va.v0.at HG.out (j := e) (by omega)
      obtain ⟨b5, k5, u4, u5, u6⟩ := HIN.out.va.v3.at HG.out p5
      rw [nE2] at u1 u2
      rw [p1] at x3
      rw [p3] at z3
      rw [p4] at u3
      rw [p6] at u6
      have ff : (f : Int) < (P.nS : Int) := by omega
      have ff2 : (f2 : Int) < (P2.nS : Int) := by omega
      show Code.wp Try.prog (Code.seq _ (Code.seq (Code.seq _ (Code.cond (.tmp 86) _ Code.skip)) (Code.seq _ (Code.seq (Code.seq _ (Code.cond (.tmp 117) _ Code.skip)) (Code.seq _ (Code.cond (.tmp 121) _ Code.skip)))))) _ _ (wb.drewN k)
      have FIN : Hid (Dv P E c D0 (e + 1) (D0 : Int)) := .inl rfl
      have hDv := HDv.out
      clear HDv HIN HG p1 p3 p4 p6 p2 p5
      have HDk : Hid (∀ j, ∃ q, (wb.drewN k).drewN j = wb.drewN q) := HDD.out
      clear HDD
      generalize wb.drewN k = wk at *
      refine wp_seq_k (fun K2 hK => ?_)
      have HK2 : Hid (∀ (a : Act) (w : World), _ → K2 a w) := hK
      clear hK
      go_wp2
      refine HK2.out _ _ ?_
      clear HK2 K2
      refine wp_seq_k (fun K2 hK => ?_)
      have HK2 : Hid (∀ (a : Act) (w : World), _ → K2 a w) := hK
      clear hK
      refine wp_seq_k (fun K3 hK => ?_)
      have HK3 : Hid (∀ (a : Act) (w : World), _ → K3 a w) := hK
      clear hK
      go_wp2
      refine HK3.out _ _ (wp_cond_false (by kernel_rfl) (wp_skip ?_))
      refine HK2.out _ _ ?_
      clear HK2 K2 HK3 K3 x1 x2 x3 z1 z2 z3
      refine wp_seq_k (fun K2 hK => ?_)
      have HK2 : Hid (∀ (a : Act) (w : World), _ → K2 a w) := hK
      clear hK
      go_quiet (fail)
      refine HK2.out _ _ ?_
      clear HK2 K2 u1 u2 u3 u4 u5 u6
      obtain ⟨q, hq⟩ := HDk.out nq
      have HQ : Hid (wk.drewN nq = wb.drewN q) := hq
      clear hq HDk
      generalize wk.drewN nq = wl at *
      rcases hDv with rfl | ⟨rfl, _⟩
      · have hz : ((D0 : Int) == -1) = false := by rw [beq_eq_false_iff_ne]; omega
        refine wp_seq_k (fun K2 hK => ?_)
        have HK2 : Hid (∀ (a : Act) (w : World), _ → K2 a w) := hK
        clear hK
        refine wp_seq_k (fun K3 hK => ?_)
        have HK3 : Hid (∀ (a : Act) (w : World), _ → K3 a w) := hK
        clear hK
        go_wp2
        refine HK3.out _ _ (wp_cond_false (by kernel_rfl) (wp_skip ?_))
        refine HK2.out _ _ ?_
        clear HK2 K2 HK3 K3
        refine wp_seq_k (fun K2 hK => ?_)
        have HK2 : Hid (∀ (a : Act) (w : World), _ → K2 a w) := hK
        clear hK
        go_wp2
        refine HK2.out _ _ (wp_cond_false (by kernel_rfl) (wp_skip ?_))
        show K1 _ wl
        rw [HQ.out]
        exact END1.out _ q _ ⟨by kernel_rfl, by kernel_rfl, by kernel_rfl, by kernel_rfl, by kernel_rfl, by kernel_rfl⟩ (by kernel_rfl) (by kernel_rfl) FIN.out
      ·
        refine wp_seq_k (fun K2 hK => ?_)
        have HK2 : Hid (∀ (a : Act) (w : World), _ → K2 a w) := hK
        clear hK
        refine wp_seq_k (fun K3 hK => ?_)
        have HK3 : Hid (∀ (a : Act) (w : World), _ → K3 a w) := hK
        clear hK
        go_wp2
        refine HK3.out _ _ (wp_cond_true (by kernel_rfl) ?_)
        go_wp2
        refine HK2.out _ _ ?_
        clear HK2 K2 HK3 K3
        refine wp_seq_k (fun K2 hK => ?_)
        have HK2 : Hid (∀ (a : Act) (w : World), _ → K2 a w) := hK
        clear hK
        go_wp2
        refine HK2.out _ _ (wp_cond_false (by kernel_rfl) (wp_skip ?_))
        show K1 _ wl
        rw [HQ.out]
        exact END1.out _ q _ ⟨by kernel_rfl, by kernel_rfl, by kernel_rfl, by kernel_rfl, by kernel_rfl, by kernel_rfl⟩ (by kernel_rfl) (by kernel_rfl) FIN.out
    · -- another edge
      obtain ⟨b4, k4, u1, u2, u3⟩ := HIN.out.va.v0.at HG.out (j := e) (by omega)
      obtain ⟨b5, k5, u4, u5, u6⟩ := HIN.out.va.v1.at HG.out (j := e) (by omega)
      obtain ⟨b6, k6, u7, u8, u9⟩ := HIN.out.vb.v1.at HG.out (j := e) (by omega)
      rw [nE2] at u1 u2 u4 u5
      rw [nE] at u7 u8
      rw [p2] at u3
      rw [p3] at u6
      have FIN : Hid (Dv P E c D0 (e + 1) dv) := by
        rcases HDv.out with h | ⟨h1, h2⟩
        · exact .inl h
        · refine .inr ⟨h1, fun e' f he' hf1 hf2 => ?_⟩
          by_cases ee : e' = e
          · subst ee
            rcases p1 with q1 | ⟨f', d, q1, _, q3, q4⟩
            · rw [hf1] at q1; omega
            · have : f' = f := by rw [hf1] at q1; omega
              subst this
              rw [hf2] at q3; omega
          · exact h2 e' f (by omega) hf1 hf2
      show Code.wp Try.prog (Code.seq _ (Code.seq (Code.seq _ (Code.cond (.tmp 86) (Code.seq (Code.seq _ (Code.cond (.tmp 106) _ Code.skip)) (Code.exit 1)) Code.skip)) (tl 2 (f4e (Try.f4.body.getD .skip))))) _ _ (wb.drewN k)
      rcases p1 with q1 | ⟨f, d, q1, q2, q3, q4⟩
      · rw [q1] at x3 u3
        have HDk : Hid (∀ j, ∃ q, (wb.drewN k).drewN j = wb.drewN q) := HDD.out
        clear HDD HDv HIN HG q1 p2 p3
        generalize wb.drewN k = wk at *
        generalize P.to e = te at *
        refine wp_seq_k (fun K2 hK => ?_)
        have HK2 : Hid (∀ (a : Act) (w : World), _ → K2 a w) := hK
        clear hK
        go_wp2
        refine HK2.out _ _ ?_
        clear HK2 K2
        refine wp_seq_k (fun K2 hK => ?_)
        have HK2 : Hid (∀ (a : Act) (w : World), _ → K2 a w) := hK
        clear hK
        refine wp_seq_k (fun K3 hK => ?_)
        have HK3 : Hid (∀ (a : Act) (w : World), _ → K3 a w) := hK
        clear hK
        go_wp2
        refine HK3.out _ _ (wp_cond_true (by kernel_rfl) ?_)
        clear HK3 K3 x1 x2 x3
        refine wp_seq_k (fun K3 hK => ?_)
        have HK3 : Hid (∀ (a : Act) (w : World), _ → K3 a w) := hK
        clear hK
        refine wp_seq_k (fun K4 hK => ?_)
        have HK4 : Hid (∀ (a : Act) (w : World), _ → K4 a w) := hK
        clear hK
        go_quiet (fail)
        refine HK4.out _ _ (wp_cond_false (by kernel_rfl) (wp_skip ?_))
        refine HK3.out _ _ (wp_exit ?_)
        obtain ⟨q, hq⟩ := HDk.out nq
        show K1 _ (wk.drewN nq)
        rw [hq]
        exact END1.out _ q _ ⟨by kernel_rfl, by kernel_rfl, by kernel_rfl, by kernel_rfl, by kernel_rfl, by kernel_rfl⟩ (by kernel_rfl) (by kernel_rfl) FIN.out
      · obtain ⟨b3, k3, z1, z2, z3⟩ := HIN.out.vb.v3.at HG.out q2
        rw [q3] at z3
        rw [q1] at x3 u3
        have ff : (f : Int) < (P.nS : Int) := by omega
        have hnd : ((d : Int) == (c : Int)) = false := by rw [beq_eq_false_iff_ne]; omega
        have hnd2 : ((d : Int) != (c : Int)) = true := by
          have : (d : Int) ≠ (c : Int) := by omega
          simpa using this
        have HDk : Hid (∀ j, ∃ q, (wb.drewN k).drewN j = wb.drewN q) := HDD.out
        clear HDD HDv HIN HG q1 q3 p2 p3
        generalize wb.drewN k = wk at *
        generalize P.to e = te at *
        refine wp_seq_k (fun K2 hK => ?_)
        have HK2 : Hid (∀ (a : Act) (w : World), _ → K2 a w) := hK
        clear hK
        go_wp2
        refine HK2.out _ _ ?_
        clear HK2 K2
        refine wp_seq_k (fun K2 hK => ?_)
        have HK2 : Hid (∀ (a : Act) (w : World), _ → K2 a w) := hK
        clear hK
        refine wp_seq_k (fun K3 hK => ?_)
        have HK3 : Hid (∀ (a : Act) (w : World), _ → K3 a w) := hK
        clear hK
        go_wp2
        refine HK3.out _ _ (wp_cond_true (by kernel_rfl) ?_)
        clear HK3 K3 x1 x2 x3 z1 z2 z3
        refine wp_seq_k (fun K3 hK => ?_)
        have HK3 : Hid (∀ (a : Act) (w : World), _ → K3 a w) := hK
        clear hK
        refine wp_seq_k (fun K4 hK => ?_)
        have HK4 : Hid (∀ (a : Act) (w : World), _ → K4 a w) := hK
        clear hK
        go_quiet (fail)
        refine HK4.out _ _ (wp_cond_false (by kernel_rfl) (wp_skip ?_))
        refine HK3.out _ _ (wp_exit ?_)
        obtain ⟨q, hq⟩ := HDk.out nq
        show K1 _ (wk.drewN nq)
        rw [hq]
        exact END1.out _ q _ ⟨by kernel_rfl, by kernel_rfl, by kernel_rfl, by kernel_rfl, by kernel_rfl, by kernel_rfl⟩ (by kernel_rfl) (by kernel_rfl) FIN.out
  · have hee : ¬ (e : Int) < (E : Int) := by omega
    obtain rfl : e = E := by omega
    have hd : dv = (D0 : Int) := by
      rcases HDv.out with h | ⟨_, h2⟩
      · exact h
      · exfalso
        obtain ⟨e', f, a1, a2, a3⟩ := HIN.out.ex
        exact h2 e' f a1 a2 a3
    subst hd
    clear HDv HIN HG HDD
    go_wp2
    refine HK2.out _ _ (wp_cond_false (by kernel_rfl) (wp_exit ?_))
    exact HC.out _ k ⟨by kernel_rfl, by kernel_rfl, by kernel_rfl, by kernel_rfl, by kernel_rfl, by kernel_rfl⟩ (by kernel_rfl)
end Go.Proofs.Qxb6602148a
