import Derived.Test.Qxb6602148aVwa
attribute [local go_sem] Go.Proofs.Qxb6602148a.yTo Go.Proofs.Qxb6602148a.yUpon
namespace Go.Proofs.Qxb6602148a
open Go.RowKit
set_option linter.unusedVariables false
set_option linter.unusedSimpArgs false

theorem zeroS : ∀ j, j < 1 → (Value.slice none 0 0).cells[j]! = .slice none 0 0 := by
  intro j hj
  have : j = 0 := by omega
  subst this
  rfl
theorem PIn.c3 {w0 wr : World} {M V : Fam} {P : PS} {p : Nat} (h : PIn w0 M P p) (hg : Grew Fam.nil w0 V wr) : wr.cell? ⟨p, 3, none⟩ = some (.slice (Option.map (fun g => (⟨g, 0, none⟩ : Addr)) (M.b 3)) P.nS (M.cap 3)) := by
  have := pcell (h.at hg) h.b11 h.pm.p (show 3 < 12 by omega) (h.pm.hd 3 (by omega))
  unfold Fam.val at this
  rw [h.pm.nS] at this
  exact this
theorem PIn.c5 {w0 wr : World} {M V : Fam} {P : PS} {p : Nat} (h : PIn w0 M P p) (hg : Grew Fam.nil w0 V wr) : wr.cell? ⟨p, 5, none⟩ = some (.slice (Option.map (fun g => (⟨g, 0, none⟩ : Addr)) (M.b 5)) P.nC (M.cap 5)) := by
  have := pcell (h.at hg) h.b11 h.pm.p (show 5 < 12 by omega) (h.pm.hd 5 (by omega))
  unfold Fam.val at this
  rw [h.pm.nC] at this
  exact this

theorem VA.start {P : PS} {a0 a1 : Option Addr} {b0 b1 : Option Nat} {k0 k1 g2 g3 g4 : Nat} (h0 : a0 = Option.map (fun g => (⟨g, 0, none⟩ : Addr)) b0) (h1 : a1 = Option.map (fun g => (⟨g, 0, none⟩ : Addr)) b1) :
    VA P (.slice a0 P.nE k0) (.slice a1 P.nE k1) g2 g3 g4 0 (((((Fam.nil.put 0 b0 P.nE k0 (fun j => .int .i64 (P.fr j))).put 1 b1 P.nE k1 (fun j => .int .i64 (P.to j))).put 2 (some g2) P.nS P.nS (fun _ => .int .i64 0)).put 3 (some g3) P.nS P.nS (fun _ => .int .i64 0)).put 4 (some g4) P.nS P.nS (fun _ => .slice none 0 0)) := by
  subst h0 h1
  refine ⟨?_, ?_, ?_, ?_, ⟨?_, ?_, ?_⟩, fun j hj => by omega, ⟨?_, ?_, ?_⟩, fun j hj => by omega, ⟨put_bs, put_ns, by simp [Fam.put]⟩, fun j hj => by omega, fun j hj => by omega⟩
  · exact ((((Ints.nil' _ _ _ _ _ _).put_ne (by omega)).put_ne (by omega)).put_ne (by omega)).put_ne (by omega)
  · exact (((Ints.nil' _ _ _ _ _ _).put_ne (by omega)).put_ne (by omega)).put_ne (by omega)
  · rw [put_val (by omega), put_val (by omega), put_val (by omega), put_val (by omega), put_vals]
  · rw [put_val (by omega), put_val (by omega), put_val (by omega), put_vals]
  · rw [put_b (by omega), put_b (by omega), put_bs]
  · rw [put_n (by omega), put_n (by omega), put_ns]
  · rw [put_cap (by omega), put_cap (by omega)]; simp [Fam.put]
  · rw [put_b (by omega), put_bs]
  · rw [put_n (by omega), put_ns]
  · rw [put_cap (by omega)]; simp [Fam.put]

structure FVa (p : Nat) (x0 : Value) (a : Act) : Prop where
  sz : a.tmps.size = 113
  df : a.defers = []
  s0 : a.tmps.getD 0 undef = .pointer (some ⟨p, 0, none⟩)
  s2 : a.tmps.getD 2 undef = x0
structure FVb (p : Nat) (x0 x1 : Value) (a : Act) : Prop where
  f : FVa p x0 a
  s3 : a.tmps.getD 3 undef = x1
set_option maxRecDepth 40000 in
theorem litva {a : Act} {u0 u2 : Value} (hs : a.tmps.size = 113) (hd : a.defers = []) (h0 : a.tmps.getD 0 undef = u0) (h2 : a.tmps.getD 2 undef = u2) : ∃ y : Nat → Value, a = { tmps := #[u0, y 1, u2, y 3, y 4, y 5, y 6, y 7, y 8, y 9, y 10, y 11, y 12, y 13, y 14, y 15, y 16, y 17, y 18, y 19, y 20, y 21, y 22, y 23, y 24, y 25, y 26, y 27, y 28, y 29, y 30, y 31, y 32, y 33, y 34, y 35, y 36, y 37, y 38, y 39, y 40, y 41, y 42, y 43, y 44, y 45, y 46, y 47, y 48, y 49, y 50, y 51, y 52, y 53, y 54, y 55, y 56, y 57, y 58, y 59, y 60, y 61, y 62, y 63, y 64, y 65, y 66, y 67, y 68, y 69, y 70, y 71, y 72, y 73, y 74, y 75, y 76, y 77, y 78, y 79, y 80, y 81, y 82, y 83, y 84, y 85, y 86, y 87, y 88, y 89, y 90, y 91, y 92, y 93, y 94, y 95, y 96, y 97, y 98, y 99, y 100, y 101, y 102, y 103, y 104, y 105, y 106, y 107, y 108, y 109, y 110, y 111, y 112], defers := [] } := by
  obtain ⟨tmps, defers⟩ := a
  have yd : defers = [] := hd
  subst yd
  obtain ⟨y, hy, hi⟩ := arr_113 tmps hs
  have e0 := (hi 0).trans h0
  have e2 := (hi 2).trans h2
  rw [e0, e2] at hy
  exact ⟨y, congrArg (fun t => (⟨t, []⟩ : Act)) hy⟩
set_option maxRecDepth 40000 in
theorem litvb {a : Act} {u0 u2 u3 : Value} (hs : a.tmps.size = 113) (hd : a.defers = []) (h0 : a.tmps.getD 0 undef = u0) (h2 : a.tmps.getD 2 undef = u2) (h3 : a.tmps.getD 3 undef = u3) : ∃ y : Nat → Value, a = { tmps := #[u0, y 1, u2, u3, y 4, y 5, y 6, y 7, y 8, y 9, y 10, y 11, y 12, y 13, y 14, y 15, y 16, y 17, y 18, y 19, y 20, y 21, y 22, y 23, y 24, y 25, y 26, y 27, y 28, y 29, y 30, y 31, y 32, y 33, y 34, y 35, y 36, y 37, y 38, y 39, y 40, y 41, y 42, y 43, y 44, y 45, y 46, y 47, y 48, y 49, y 50, y 51, y 52, y 53, y 54, y 55, y 56, y 57, y 58, y 59, y 60, y 61, y 62, y 63, y 64, y 65, y 66, y 67, y 68, y 69, y 70, y 71, y 72, y 73, y 74, y 75, y 76, y 77, y 78, y 79, y 80, y 81, y 82, y 83, y 84, y 85, y 86, y 87, y 88, y 89, y 90, y 91, y 92, y 93, y 94, y 95, y 96, y 97, y 98, y 99, y 100, y 101, y 102, y 103, y 104, y 105, y 106, y 107, y 108, y 109, y 110, y 111, y 112], defers := [] } := by
  obtain ⟨tmps, defers⟩ := a
  have yd : defers = [] := hd
  subst yd
  obtain ⟨y, hy, hi⟩ := arr_113 tmps hs
  have e0 := (hi 0).trans h0
  have e2 := (hi 2).trans h2
  have e3 := (hi 3).trans h3
  rw [e0, e2, e3] at hy
  exact ⟨y, congrArg (fun t => (⟨t, []⟩ : Act)) hy⟩

set_option maxRecDepth 40000 in
set_option maxHeartbeats 2000000 in
/-- Regions 0 and 1. -/
theorem vw_1a (w0 : World) (M : Fam) (P : PS) (p : Nat) (hI : PIn w0 M P p) (y : Nat → Value) (tail : Code) (Z : Ending → World → Prop)
    (hT : ∀ (a : Act) (w' : World) (a0 : Option Addr) (b0 : Option Nat) (k0 : Nat), FVa p (.slice a0 P.nE k0) a → a0 = Option.map (fun g => (⟨g, 0, none⟩ : Addr)) b0 → Rep KV w' (Fam.nil.put 0 b0 P.nE k0 (fun j => .int .i64 (P.fr j))) → Grew Fam.nil w0 (Fam.nil.put 0 b0 P.nE k0 (fun j => .int .i64 (P.fr j))) w' → Code.wp Try.prog tail (bodyPost Try.prog Try.f27 fun e w' => Z e w') a w') :
    Code.wp Try.prog (rt 2 (Try.f27.body.getD .skip) tail) (bodyPost Try.prog Try.f27 fun e w' => Z e w') { tmps := #[.pointer (some ⟨p, 0, none⟩), y 1, y 2, y 3, y 4, y 5, y 6, y 7, y 8, y 9, y 10, y 11, y 12, y 13, y 14, y 15, y 16, y 17, y 18, y 19, y 20, y 21, y 22, y 23, y 24, y 25, y 26, y 27, y 28, y 29, y 30, y 31, y 32, y 33, y 34, y 35, y 36, y 37, y 38, y 39, y 40, y 41, y 42, y 43, y 44, y 45, y 46, y 47, y 48, y 49, y 50, y 51, y 52, y 53, y 54, y 55, y 56, y 57, y 58, y 59, y 60, y 61, y 62, y 63, y 64, y 65, y 66, y 67, y 68, y 69, y 70, y 71, y 72, y 73, y 74, y 75, y 76, y 77, y 78, y 79, y 80, y 81, y 82, y 83, y 84, y 85, y 86, y 87, y 88, y 89, y 90, y 91, y 92, y 93, y 94, y 95, y 96, y 97, y 98, y 99, y 100, y 101, y 102, y 103, y 104, y 105, y 106, y 107, y 108, y 109, y 110, y 111, y 112], defers := [] } w0 := by
  obtain ⟨hE, hS, hC⟩ := hI.small
  have c1 := pcell hI.rep hI.b11 hI.pm.p (show 1 < 12 by omega) (hI.pm.hd 1 (by omega))
  have HCall : Hid (Calls Try.prog 32 #[M.val 1] w0 fun e w' => ∃ a' b cap, e = .returned (.slice a' P.nE cap) ∧ a' = Option.map (fun g => (⟨g, 0, none⟩ : Addr)) b ∧ Rep KV w' (Fam.nil.put 0 b P.nE cap (fun j => .int .i64 (P.fr j))) ∧ Grew Fam.nil w0 (Fam.nil.put 0 b P.nE cap (fun j => .int .i64 (P.fr j))) w' ∧ (b = none ↔ M.b 1 = none)) := cloneB_row (Rep.nil KV w0) (Grew.refl Fam.nil w0) hI.rep hI.pm.fr rfl (by omega) 0 rfl
  have HTL : Hid (∀ (a : Act) (w' : World) (a0 : Option Addr) (b0 : Option Nat) (k0 : Nat), FVa p (.slice a0 P.nE k0) a → a0 = Option.map (fun g => (⟨g, 0, none⟩ : Addr)) b0 → Rep KV w' (Fam.nil.put 0 b0 P.nE k0 (fun j => .int .i64 (P.fr j))) → Grew Fam.nil w0 (Fam.nil.put 0 b0 P.nE k0 (fun j => .int .i64 (P.fr j))) w' → Code.wp Try.prog tail (bodyPost Try.prog Try.f27 fun e w' => Z e w') a w') := hT
  clear hT hI
  generalize M.val 1 = m1 at *
  simp only [rt, Try.f27, Option.getD]
  go_wp2_with (go_at_call 32; refine HCall.out.mono ?_; rintro e w1 ⟨a0, b0, k0, rfl, hx, r, g, _⟩; have HX : Hid (a0 = Option.map (fun g => (⟨g, 0, none⟩ : Addr)) b0) := hx; have HR : Hid (Rep KV w1 (Fam.nil.put 0 b0 P.nE k0 (fun j => .int .i64 (P.fr j)))) := r; have HG : Hid (Grew Fam.nil w0 (Fam.nil.put 0 b0 P.nE k0 (fun j => .int .i64 (P.fr j))) w1) := g; clear r g hx)
  exact HTL.out _ _ a0 b0 k0 ⟨by kernel_rfl, by kernel_rfl, by kernel_rfl, by kernel_rfl⟩ HX.out HR.out HG.out

set_option maxRecDepth 40000 in
set_option maxHeartbeats 2000000 in
/-- Region 2. -/
theorem vw_1b (w0 : World) (M : Fam) (P : PS) (p : Nat) (hI : PIn w0 M P p) (x0 : Value) (wr : World) (V : Fam) (hR : Rep KV wr V) (hG : Grew Fam.nil w0 V wr) (y : Nat → Value) (tail : Code) (Z : Ending → World → Prop)
    (hT : ∀ (a : Act) (w' : World) (a1 : Option Addr) (b1 : Option Nat) (k1 : Nat), FVb p x0 (.slice a1 P.nE k1) a → a1 = Option.map (fun g => (⟨g, 0, none⟩ : Addr)) b1 → Rep KV w' (V.put 1 b1 P.nE k1 (fun j => .int .i64 (P.to j))) → Grew Fam.nil w0 (V.put 1 b1 P.nE k1 (fun j => .int .i64 (P.to j))) w' → Code.wp Try.prog tail (bodyPost Try.prog Try.f27 fun e w' => Z e w') a w') :
    Code.wp Try.prog (rt 1 (tl 2 (Try.f27.body.getD .skip)) tail) (bodyPost Try.prog Try.f27 fun e w' => Z e w') { tmps := #[.pointer (some ⟨p, 0, none⟩), y 1, x0, y 3, y 4, y 5, y 6, y 7, y 8, y 9, y 10, y 11, y 12, y 13, y 14, y 15, y 16, y 17, y 18, y 19, y 20, y 21, y 22, y 23, y 24, y 25, y 26, y 27, y 28, y 29, y 30, y 31, y 32, y 33, y 34, y 35, y 36, y 37, y 38, y 39, y 40, y 41, y 42, y 43, y 44, y 45, y 46, y 47, y 48, y 49, y 50, y 51, y 52, y 53, y 54, y 55, y 56, y 57, y 58, y 59, y 60, y 61, y 62, y 63, y 64, y 65, y 66, y 67, y 68, y 69, y 70, y 71, y 72, y 73, y 74, y 75, y 76, y 77, y 78, y 79, y 80, y 81, y 82, y 83, y 84, y 85, y 86, y 87, y 88, y 89, y 90, y 91, y 92, y 93, y 94, y 95, y 96, y 97, y 98, y 99, y 100, y 101, y 102, y 103, y 104, y 105, y 106, y 107, y 108, y 109, y 110, y 111, y 112], defers := [] } wr := by
  obtain ⟨hE, hS, hC⟩ := hI.small
  have hMr := hI.at hG
  have c2 := pcell hMr hI.b11 hI.pm.p (show 2 < 12 by omega) (hI.pm.hd 2 (by omega))
  have HCall : Hid (Calls Try.prog 32 #[M.val 2] wr fun e w' => ∃ a' b cap, e = .returned (.slice a' P.nE cap) ∧ a' = Option.map (fun g => (⟨g, 0, none⟩ : Addr)) b ∧ Rep KV w' (V.put 1 b P.nE cap (fun j => .int .i64 (P.to j))) ∧ Grew Fam.nil w0 (V.put 1 b P.nE cap (fun j => .int .i64 (P.to j))) w' ∧ (b = none ↔ M.b 2 = none)) := cloneB_row hR hG hMr hI.pm.to rfl (by omega) 1 rfl
  have HTL : Hid (∀ (a : Act) (w' : World) (a1 : Option Addr) (b1 : Option Nat) (k1 : Nat), FVb p x0 (.slice a1 P.nE k1) a → a1 = Option.map (fun g => (⟨g, 0, none⟩ : Addr)) b1 → Rep KV w' (V.put 1 b1 P.nE k1 (fun j => .int .i64 (P.to j))) → Grew Fam.nil w0 (V.put 1 b1 P.nE k1 (fun j => .int .i64 (P.to j))) w' → Code.wp Try.prog tail (bodyPost Try.prog Try.f27 fun e w' => Z e w') a w') := hT
  clear hT hI hR hG hMr
  generalize M.val 2 = m2 at *
  simp only [tl, rt, Try.f27, Option.getD]
  go_wp2_with (go_at_call 32; refine HCall.out.mono ?_; rintro e w1 ⟨a0, b0, k0, rfl, hx, r, g, _⟩; have HX : Hid (a0 = Option.map (fun g => (⟨g, 0, none⟩ : Addr)) b0) := hx; have HR : Hid (Rep KV w1 (V.put 1 b0 P.nE k0 (fun j => .int .i64 (P.to j)))) := r; have HG : Hid (Grew Fam.nil w0 (V.put 1 b0 P.nE k0 (fun j => .int .i64 (P.to j))) w1) := g; clear r g hx)
  exact HTL.out _ _ a0 b0 k0 ⟨⟨by kernel_rfl, by kernel_rfl, by kernel_rfl, by kernel_rfl⟩, by kernel_rfl⟩ HX.out HR.out HG.out

set_option maxRecDepth 40000 in
set_option maxHeartbeats 2000000 in
/-- Regions 3 to 5. -/
theorem vw_1c (w0 : World) (M : Fam) (P : PS) (p : Nat) (hI : PIn w0 M P p) (x0 x1 : Value) (wr : World) (V : Fam) (hR : Rep KV wr V) (hG : Grew Fam.nil w0 V wr) (y : Nat → Value) (tail : Code) (Z : Ending → World → Prop)
    (hT : ∀ (a : Act) (w' : World) (g2 g3 g4 : Nat), FV p x0 x1 g2 g3 g4 P.nS a → Rep KV w' (((V.put 2 (some g2) P.nS P.nS (fun _ => .int .i64 0)).put 3 (some g3) P.nS P.nS (fun _ => .int .i64 0)).put 4 (some g4) P.nS P.nS (fun _ => .slice none 0 0)) → Grew Fam.nil w0 (((V.put 2 (some g2) P.nS P.nS (fun _ => .int .i64 0)).put 3 (some g3) P.nS P.nS (fun _ => .int .i64 0)).put 4 (some g4) P.nS P.nS (fun _ => .slice none 0 0)) w' → Code.wp Try.prog tail (bodyPost Try.prog Try.f27 fun e w' => Z e w') a w') :
    Code.wp Try.prog (rt 3 (tl 3 (Try.f27.body.getD .skip)) tail) (bodyPost Try.prog Try.f27 fun e w' => Z e w') { tmps := #[.pointer (some ⟨p, 0, none⟩), y 1, x0, x1, y 4, y 5, y 6, y 7, y 8, y 9, y 10, y 11, y 12, y 13, y 14, y 15, y 16, y 17, y 18, y 19, y 20, y 21, y 22, y 23, y 24, y 25, y 26, y 27, y 28, y 29, y 30, y 31, y 32, y 33, y 34, y 35, y 36, y 37, y 38, y 39, y 40, y 41, y 42, y 43, y 44, y 45, y 46, y 47, y 48, y 49, y 50, y 51, y 52, y 53, y 54, y 55, y 56, y 57, y 58, y 59, y 60, y 61, y 62, y 63, y 64, y 65, y 66, y 67, y 68, y 69, y 70, y 71, y 72, y 73, y 74, y 75, y 76, y 77, y 78, y 79, y 80, y 81, y 82, y 83, y 84, y 85, y 86, y 87, y 88, y 89, y 90, y 91, y 92, y 93, y 94, y 95, y 96, y 97, y 98, y 99, y 100, y 101, y 102, y 103, y 104, y 105, y 106, y 107, y 108, y 109, y 110, y 111, y 112], defers := [] } wr := by
  obtain ⟨i3, hi3, hz30, hz31, hz32⟩ := info_parts Try.info3
  obtain ⟨i26, hi26, hz260, hz261, hz262⟩ := info_parts Try.info26
  obtain ⟨hE, hS, hC⟩ := hI.small
  have HC3 : Hid (∀ (wr : World) (V : Fam), Grew Fam.nil w0 V wr → wr.cell? ⟨p, 3, none⟩ = some (.slice (Option.map (fun g => (⟨g, 0, none⟩ : Addr)) (M.b 3)) P.nS (M.cap 3))) := fun wr V g => hI.c3 g
  have c3 := hI.c3 hG
  have HR : Hid (Rep KV wr V) := hR
  have HG : Hid (Grew Fam.nil w0 V wr) := hG
  have HTL : Hid (∀ (a : Act) (w' : World) (g2 g3 g4 : Nat), FV p x0 x1 g2 g3 g4 P.nS a → Rep KV w' (((V.put 2 (some g2) P.nS P.nS (fun _ => .int .i64 0)).put 3 (some g3) P.nS P.nS (fun _ => .int .i64 0)).put 4 (some g4) P.nS P.nS (fun _ => .slice none 0 0)) → Grew Fam.nil w0 (((V.put 2 (some g2) P.nS P.nS (fun _ => .int .i64 0)).put 3 (some g3) P.nS P.nS (fun _ => .int .i64 0)).put 4 (some g4) P.nS P.nS (fun _ => .slice none 0 0)) w' → Code.wp Try.prog tail (bodyPost Try.prog Try.f27 fun e w' => Z e w') a w') := hT
  clear hT hI hR hG
  generalize Option.map (fun g => (⟨g, 0, none⟩ : Addr)) (M.b 3) = a3 at *
  generalize M.cap 3 = k3 at *
  generalize P.nS = nS at *
  simp only [tl, rt, Try.f27, Option.getD]
  go_wp2_with (first
    | (at_make; refine wpList_make_row rfl (.tmp 25) (.tmp 25) 26 rfl 3 i3 (.int .i64 0) 1 8 (.int .i64 0) Try.underlying26 hi3 hz30 hz31 hz32 rfl (by decide) zero1 nS _ _ rfl rfl rfl rfl (by omega) (by omega) ?_
       intro w3 hF
       have HR3 : Hid (Rep KV w3 _) := hF.rep HR.out 2 rfl
       have HG3 : Hid (Grew Fam.nil w0 _ w3) := HG.out.trans (hF.grew _ 2)
       have d3 := HC3.out _ _ HG3.out
       clear hF c3)
    | (at_make; refine wpList_make_row rfl (.tmp 31) (.tmp 31) 26 rfl 3 i3 (.int .i64 0) 1 8 (.int .i64 0) Try.underlying26 hi3 hz30 hz31 hz32 rfl (by decide) zero1 nS _ _ rfl rfl rfl rfl (by omega) (by omega) ?_
       intro w4 hF
       have HR4 : Hid (Rep KV w4 _) := hF.rep HR3.out 3 rfl
       have HG4 : Hid (Grew Fam.nil w0 _ w4) := HG3.out.trans (hF.grew _ 3)
       have e3 := HC3.out _ _ HG4.out
       clear hF d3)
    | (at_make; refine wpList_make_row rfl (.tmp 37) (.tmp 37) 22 rfl 26 i26 (.slice none 0 0) 1 24 (.slice none 0 0) Try.underlying22 hi26 hz260 hz261 hz262 rfl (by decide) zeroS nS _ _ rfl rfl rfl rfl (by omega) (by omega) ?_
       intro w5 hF
       have HR5 : Hid (Rep KV w5 _) := hF.rep HR4.out 4 rfl
       have HG5 : Hid (Grew Fam.nil w0 _ w5) := HG4.out.trans (hF.grew _ 4)
       clear hF e3))
  exact HTL.out _ _ _ _ _ ⟨by kernel_rfl, by kernel_rfl, by kernel_rfl, by kernel_rfl, by kernel_rfl, by kernel_rfl, by kernel_rfl, by kernel_rfl⟩ HR5.out HG5.out

def VAI (w0 : World) (M : Fam) (P : PS) (p : Nat) (x0 x1 : Value) (g2 g3 g4 : Nat) (a : Act) (w' : World) : Prop :=
  FV p x0 x1 g2 g3 g4 P.nS a ∧ ∃ s : Nat, a.tmps.getD 9 undef = .int .i64 (s : Int) ∧ s ≤ P.nS ∧ ∃ V, Rep KV w' V ∧ Grew Fam.nil w0 V w' ∧ VA P x0 x1 g2 g3 g4 s V
def mu9 (n : Nat) (a : Act) : Nat := n - (intOf (a.tmps.getD 9 undef)).toNat

set_option maxRecDepth 40000 in
set_option maxHeartbeats 8000000 in
/-- The slots. -/
theorem vw_2 (w0 : World) (M : Fam) (P : PS) (p : Nat) (hI : PIn w0 M P p) (x0 x1 : Value) (g2 g3 g4 : Nat) (a : Act) (wr : World) (V : Fam) (hf : FV p x0 x1 g2 g3 g4 P.nS a) (hR : Rep KV wr V) (hG : Grew Fam.nil w0 V wr) (hV : VA P x0 x1 g2 g3 g4 0 V) (Q : Exit → Act → World → Prop)
    (hC : ∀ (a : Act) (w' : World) (V : Fam), FV p x0 x1 g2 g3 g4 P.nS a → Rep KV w' V → Grew Fam.nil w0 V w' → VA P x0 x1 g2 g3 g4 P.nS V → Q .normal a w') :
    Code.wp Try.prog (sL (tl 6 (Try.f27.body.getD .skip))) Q a wr := by
  obtain ⟨y, rfl⟩ := litvv hf.sz hf.df hf.s0 hf.s2 hf.s3 hf.s4 hf.s5 hf.s6
  have start : Hid (∃ V, Rep KV wr V ∧ Grew Fam.nil w0 V wr ∧ VA P x0 x1 g2 g3 g4 0 V) := ⟨V, hR, hG, hV⟩
  have HI : Hid (PIn w0 M P p) := hI
  obtain ⟨hE, hS, hCn⟩ := hI.small
  have HC : Hid (∀ (a : Act) (w' : World) (V : Fam), FV p x0 x1 g2 g3 g4 P.nS a → Rep KV w' V → Grew Fam.nil w0 V w' → VA P x0 x1 g2 g3 g4 P.nS V → Q .normal a w') := hC
  clear hf hR hG hV hI hC
  show Code.wp Try.prog (Code.seq _ (Code.block 0 (Code.loop (Code.seq (Code.seq _ (Code.cond (.tmp 45) Code.skip (Code.exit 0))) (Code.seq (Code.block 1 (Code.seq _ (Code.seq _ _))) _))))) Q _ wr
  refine wp_seq_k (fun K1 hK => ?_)
  have HK : Hid (∀ (a : Act) (w : World), _ → K1 a w) := hK
  clear hK
  go_wp2
  refine HK.out _ _ ?_
  clear HK K1
  refine wp_block ?_
  refine wp_loop (VAI w0 M P p x0 x1 g2 g3 g4) (fun a _ => mu9 P.nS a) ⟨⟨by kernel_rfl, by kernel_rfl, by kernel_rfl, by kernel_rfl, by kernel_rfl, by kernel_rfl, by kernel_rfl, by kernel_rfl⟩, 0, by kernel_rfl, Nat.zero_le _, start.out⟩ ?_
  clear start
  rintro a w' ⟨hf, s, h9, s1, V, hR, hG, hV⟩
  have e9 : mu9 P.nS a = P.nS - s := congrArg (fun v => P.nS - (intOf v).toNat) h9
  obtain ⟨y2, rfl⟩ := litv9 hf.sz hf.df hf.s0 hf.s2 hf.s3 hf.s4 hf.s5 hf.s6 h9
  rw [e9]
  clear e9 hf h9
  have hMr := HI.out.at hG
  have x3 := HI.out.c3 hG
  refine wp_seq_k (fun K1 hK => ?_)
  have HK : Hid (∀ (a : Act) (w : World), _ → K1 a w) := hK
  clear hK
  refine wp_seq_k (fun K2 hK => ?_)
  have HK2 : Hid (∀ (a : Act) (w : World), _ → K2 a w) := hK
  clear hK
  by_cases hs : s < P.nS
  · have hsi : (s : Int) < (P.nS : Int) := by omega
    obtain ⟨gs, bs⟩ := hMr.hasBlock (i := 3) (by rw [HI.out.pm.nS]; omega)
    rw [bs] at x3
    have x3' : w'.cell? ⟨p, 3, none⟩ = some (.slice (some ⟨gs, 0, none⟩) P.nS (M.cap 3)) := x3
    have l3 := hMr.le_cap 3
    rw [HI.out.pm.nS] at l3
    have z0 : w'.cell? ⟨gs, s * 7, none⟩ = some (.int .i64 (P.node s)) := (hMr.cell bs (by rw [HI.out.pm.nS]; show s * 7 < P.nS * 7; omega)).trans (congrArg some (HI.out.pm.node s hs))
    have z1 : w'.cell? ⟨gs, s * 7 + 1, none⟩ = some (.int .i64 (P.comp s)) := (hMr.cell bs (by rw [HI.out.pm.nS]; show s * 7 + 1 < P.nS * 7; omega)).trans (congrArg some (HI.out.pm.comp s hs))
    have z2 : w'.cell? ⟨gs, s * 7 + 2, none⟩ = some (M.val (60 + 3 * s)) := (hMr.cell bs (by rw [HI.out.pm.nS]; show s * 7 + 2 < P.nS * 7; omega)).trans (congrArg some (HI.out.pm.outh s hs))
    have t2 := hR.cell hV.b2.1 (j := s) (by rw [hV.b2.2.1]; show s < P.nS * 1; omega)
    have t3 := hR.cell hV.b3.1 (j := s) (by rw [hV.b3.2.1]; show s < P.nS * 1; omega)
    have u2 := hR.frozen hV.b2.1 s
    have u3 := hR.frozen hV.b3.1 s
    -- the new blocks lie apart from the partition's
    have own : ∀ i g, V.b i = some g → w0.heap.size ≤ g := fun i g hb => by
      rcases hG.own i g hb with ⟨j, h⟩ | h
      · cases h
      · exact h
    have o2 := own 2 g2 hV.b2.1
    have o3 := own 3 g3 hV.b3.1
    have o4 := own 4 g4 hV.b4.1
    have sp := HI.out.rep.lt HI.out.b11
    have ss := HI.out.rep.lt bs
    have d1 : p ≠ g2 := by omega
    have d2 : gs ≠ g2 := by omega
    have d3 : p ≠ g3 := by omega
    have d4 : gs ≠ g3 := by omega
    have d5 : g3 ≠ g2 := fun e => by have := hR.inj 3 2 g3 hV.b3.1 (by rw [e]; exact hV.b2.1); omega
    -- behind the first two writes
    have hR2 : Rep KV ((w'.setCell ⟨g2, s, none⟩ (.int .i64 (P.node s))).setCell ⟨g3, s, none⟩ (.int .i64 (P.comp s))) ((V.set 2 s (.int .i64 (P.node s))).set 3 s (.int .i64 (P.comp s))) := (hR.set hV.b2.1 s _).set (i := 3) hV.b3.1 s _
    have hG2 : Grew Fam.nil w0 ((V.set 2 s (.int .i64 (P.node s))).set 3 s (.int .i64 (P.comp s))) ((w'.setCell ⟨g2, s, none⟩ (.int .i64 (P.node s))).setCell ⟨g3, s, none⟩ (.int .i64 (P.comp s))) := (hG.set ⟨2, hV.b2.1⟩ _ _ _ _).set ⟨3, hV.b3.1⟩ _ _ _ _
    have hcall := cloneB_row hR2 hG2 (HI.out.at hG2) (HI.out.pm.out s hs) (KP_out s) (HI.out.on s hs) (7 + 2 * s) (KV_o s)
    have b4 : V.b 4 = some g4 := hV.b4.1
    have HCall : Hid (Calls Try.prog 32 #[M.val (60 + 3 * s)] ((w'.setCell ⟨g2, s, none⟩ (.int .i64 (P.node s))).setCell ⟨g3, s, none⟩ (.int .i64 (P.comp s))) fun e w2 => ∃ a4 k4, e = .returned (.slice a4 (P.on s) k4) ∧ (∃ vv, w2.cell? ⟨g4, s, none⟩ = some vv) ∧ w2.frozen? ⟨g4, s, none⟩ = false ∧ ∃ V', Rep KV (w2.setCell ⟨g4, s, none⟩ (.slice a4 (P.on s) k4)) V' ∧ Grew Fam.nil w0 V' (w2.setCell ⟨g4, s, none⟩ (.slice a4 (P.on s) k4)) ∧ VA P x0 x1 g2 g3 g4 (s + 1) V') := by
      refine hcall.mono ?_
      rintro e w2 ⟨a', b, cap, rfl, hx, r, g, _⟩
      have b4' : (((V.set 2 s (.int .i64 (P.node s))).set 3 s (.int .i64 (P.comp s))).put (7 + 2 * s) b (P.on s) cap (fun j => .int .i64 (P.out s j))).b 4 = some g4 := (put_b (by omega)).trans b4
      have hn := hV.next hs b cap
      rw [put_vals, ← hx] at hn
      exact ⟨_, _, rfl, ⟨_, r.cell b4' (j := s) (by rw [put_n (by omega)]; show s < V.n 4 * 1; rw [hV.b4.2.1]; omega)⟩, r.frozen b4' s, _, r.set b4' s _, g.set ⟨4, b4'⟩ _ _ _ _, hn⟩
    clear hcall hR hG hV hR2 hG2 b4 own bs hMr x3
    generalize V.F 2 s = f2 at *
    generalize V.F 3 s = f3 at *
    generalize M.cap 3 = k3 at *
    generalize M.val (60 + 3 * s) = vo at *
    go_wp2
    refine HK2.out _ _ (wp_cond_true (by kernel_rfl) (wp_skip ?_))
    refine HK.out _ _ ?_
    clear HK K1 HK2 K2
    refine wp_seq_k (fun K1 hK => ?_)
    have HK : Hid (∀ (a : Act) (w : World), _ → K1 a w) := hK
    clear hK
    refine wp_block ?_
    refine wp_seq_k (fun K2 hK => ?_)
    have HK2 : Hid (∀ (a : Act) (w : World), _ → K2 a w) := hK
    clear hK
    go_wp2
    refine HK2.out _ _ ?_
    clear HK2 K2
    have y3 : (w'.setCell ⟨g2, s, none⟩ (.int .i64 (P.node s))).cell? ⟨p, 3, none⟩ = some (.slice (some ⟨gs, 0, none⟩) P.nS k3) := (cell_ne d1).trans x3'
    have y1 : (w'.setCell ⟨g2, s, none⟩ (.int .i64 (P.node s))).cell? ⟨gs, s * 7 + 1, none⟩ = some (.int .i64 (P.comp s)) := (cell_ne d2).trans z1
    refine wp_seq_k (fun K2 hK => ?_)
    have HK2 : Hid (∀ (a : Act) (w : World), _ → K2 a w) := hK
    clear hK
    go_wp2
    refine HK2.out _ _ ?_
    clear HK2 K2
    have q3 : ((w'.setCell ⟨g2, s, none⟩ (.int .i64 (P.node s))).setCell ⟨g3, s, none⟩ (.int .i64 (P.comp s))).cell? ⟨p, 3, none⟩ = some (.slice (some ⟨gs, 0, none⟩) P.nS k3) := (cell_ne d3).trans y3
    have q2 : ((w'.setCell ⟨g2, s, none⟩ (.int .i64 (P.node s))).setCell ⟨g3, s, none⟩ (.int .i64 (P.comp s))).cell? ⟨gs, s * 7 + 2, none⟩ = some vo := (cell_ne d4).trans ((cell_ne d2).trans z2)
    clear x3' z0 z1 z2 t2 t3 u2 u3 y3 y1
    generalize (w'.setCell ⟨g2, s, none⟩ (.int .i64 (P.node s))).setCell ⟨g3, s, none⟩ (.int .i64 (P.comp s)) = wb at *
    go_wp2_with (go_at_call 32; refine HCall.out.mono ?_; rintro e w2 ⟨a4, k4, rfl, ⟨vv, c4⟩, f4, hfin⟩; have HFin : Hid (∃ V', Rep KV (w2.setCell ⟨g4, s, none⟩ (.slice a4 (P.on s) k4)) V' ∧ Grew Fam.nil w0 V' (w2.setCell ⟨g4, s, none⟩ (.slice a4 (P.on s) k4)) ∧ VA P x0 x1 g2 g3 g4 (s + 1) V') := hfin; clear hfin)
    refine HK.out _ _ ?_
    clear HK K1 c4 f4 q3 q2
    generalize w2.setCell ⟨g4, s, none⟩ (.slice a4 (P.on s) k4) = we at *
    go_wp2
    exact ⟨⟨⟨by kernel_rfl, by kernel_rfl, by kernel_rfl, by kernel_rfl, by kernel_rfl, by kernel_rfl, by kernel_rfl, by kernel_rfl⟩, s + 1, by kernel_rfl, by omega, HFin.out⟩, Nat.lt_of_le_of_lt (Nat.le_of_eq (by kernel_rfl : _ = P.nS - (s + 1))) (by omega)⟩
  · have hsi : ¬ (s : Int) < (P.nS : Int) := by omega
    have hss : s = P.nS := by omega
    have fin : Hid (Rep KV w' V ∧ Grew Fam.nil w0 V w' ∧ VA P x0 x1 g2 g3 g4 P.nS V) := ⟨hR, hG, by rw [← hss]; exact hV⟩
    clear hR hG hV hMr hss
    generalize Option.map (fun g => (⟨g, 0, none⟩ : Addr)) (M.b 3) = a3 at *
    generalize M.cap 3 = k3 at *
    go_wp2
    refine HK2.out _ _ (wp_cond_false (by kernel_rfl) (wp_exit ?_))
    exact HC.out _ _ V ⟨by kernel_rfl, by kernel_rfl, by kernel_rfl, by kernel_rfl, by kernel_rfl, by kernel_rfl, by kernel_rfl, by kernel_rfl⟩ fin.out.1 fin.out.2.1 fin.out.2.2
end Go.Proofs.Qxb6602148a
