/-
  'zzBuildModel': the four lists; the edges.
-/
import Derived.Test.Qxb6602148aMda
attribute [local go_sem] Go.Proofs.Qxb6602148a.yTo Go.Proofs.Qxb6602148a.yUpon
namespace Go.Proofs.Qxb6602148a
open Go.RowKit
set_option linter.unusedVariables false
set_option linter.unusedSimpArgs false

theorem Bools.set_ne {M : Fam} {i n i0 j : Nat} {f : Nat → Bool} {v : Value} (h : Bools M i n f) (hne : i ≠ i0) : Bools (M.set i0 j v) i n f := ⟨h.1, fun k hk => (set_F _ hne).trans (h.2 k hk)⟩
def upb (f : Nat → Bool) (i : Nat) (x : Bool) : Nat → Bool := fun j => if j = i then x else f j
theorem upb_same (f : Nat → Bool) (i : Nat) (x : Bool) : upb f i x i = x := by simp [upb]
theorem upb_other (f : Nat → Bool) {i j : Nat} (x : Bool) (h : j ≠ i) : upb f i x j = f j := by simp [upb, h]
theorem Bools.set {M : Fam} {i n j : Nat} {f : Nat → Bool} {x : Bool} (h : Bools M i n f) : Bools (M.set i j (.bool x)) i n (upb f j x) := by
  refine ⟨h.1, fun k hk => ?_⟩
  by_cases e : k = j
  · subst e; rw [set_Fs, upb_same]
  · rw [set_Fj e, upb_other _ _ e, h.2 k hk]
theorem Bools.put_ne {M : Fam} {i n i0 n' cap : Nat} {b : Option Nat} {f : Nat → Bool} {g : Nat → Value} (h : Bools M i n f) (hne : i ≠ i0) : Bools (M.put i0 b n' cap g) i n f := ⟨(put_n hne).trans h.1, fun k hk => by rw [put_F hne]; exact h.2 k hk⟩
theorem Bools.cell {K : Nat → TypeId × Nat} {w : World} {M : Fam} {i n g : Nat} {f : Nat → Bool} (h : Bools M i n f) (hR : Rep K w M) (hg : M.b i = some g) (hK : K i = (4, 1)) {j : Nat} (hj : j < n) : w.cell? ⟨g, j, none⟩ = some (.bool (f j)) := by
  rw [hR.cell hg (by rw [h.1, hK]; show j < n * 1; omega), h.2 j hj]

/-- A region that makes one of the model's lists. -/
theorem MI.lay {w0 wr wa : World} {D : Fam} (h : MI w0 D wr) {gm g E f r e : Nat} {z : Value} (b14 : D.b 14 = some gm) (hr : r ≠ 14) (hK : KD r = (e, 1)) (fr : Fresh wr wa e 1 g E E (fun _ => z)) :
    MI w0 ((D.put r (some g) E E (fun _ => z)).set 14 f (.slice (some ⟨g, 0, none⟩) E E)) (wa.setCell ⟨gm, f, none⟩ (.slice (some ⟨g, 0, none⟩) E E)) := by
  have b : (D.put r (some g) E E (fun _ => z)).b 14 = some gm := by rw [put_b (fun e => hr e.symm)]; exact b14
  exact ⟨(fr.rep h.rep r hK).set b f _, (h.grew.trans (fr.grew _ r)).set ⟨14, b⟩ _ _ _ _⟩

set_option maxRecDepth 40000 in
set_option maxHeartbeats 4000000 in
theorem md_30 (w0 : World) (n E : Nat) (a0 : Option Addr) (k0 ga gm : Nat) (hE : E ≤ 4096) (D : Fam) (wr : World) (hM : MI w0 D wr) (b14 : D.b 14 = some gm) (n14 : D.n 14 = 1) (a : Act) (hf : FM a0 n k0 ga gm a) (h5 : a.tmps.getD 5 undef = .int .i64 (E : Int)) (tail : Code) (Z : Ending → World → Prop)
    (hT : ∀ (a : Act) (w' : World) (g : Nat), FM a0 n k0 ga gm a → a.tmps.getD 5 undef = .int .i64 (E : Int) → MI w0 ((D.put 0 (some g) E E (fun _ => .int .i64 0)).set 14 1 (.slice (some ⟨g, 0, none⟩) E E)) w' → Code.wp Try.prog tail (bodyPost Try.prog Try.f10 fun e w' => Z e w') a w') :
    Code.wp Try.prog (rt 1 (tl 6 (Try.f10.body.getD .skip)) tail) (bodyPost Try.prog Try.f10 fun e w' => Z e w') a wr := by
  obtain ⟨y, rfl⟩ := litm5 hf.sz hf.df hf.s0 hf.s2 hf.s3 hf.s4 h5
  obtain ⟨i3, hi3, hz30, hz31, hz32⟩ := info_parts Try.info3
  obtain ⟨mk, hmk, hfr⟩ := make_fun (P := Try.prog) 26 3 i3 (.int .i64 0) 1 8 (.int .i64 0) Try.underlying26 hi3 hz30 hz31 hz32 rfl (by decide) zero1 E (by omega) (by omega)
  have c1 := hM.rep.cell b14 (j := 1) (by rw [n14]; decide)
  have q1 := hM.rep.frozen b14 1
  have sp := hM.rep.lt b14
  have fA := hfr wr
  have d1 : (mk wr).cell? ⟨gm, 1, none⟩ = some (D.F 14 1) := (fA.cell_old sp).trans c1
  have u1 : (mk wr).frozen? ⟨gm, 1, none⟩ = false := (fA.frozen_old sp).trans q1
  have fin : Hid (MI w0 ((D.put 0 (some wr.heap.size) E E (fun _ => .int .i64 0)).set 14 1 (.slice (some ⟨wr.heap.size, 0, none⟩) E E)) ((mk wr).setCell ⟨gm, 1, none⟩ (.slice (some ⟨wr.heap.size, 0, none⟩) E E))) := hM.lay b14 (by decide) rfl fA
  have HTL : Hid (∀ (a : Act) (w' : World) (g : Nat), FM a0 n k0 ga gm a → a.tmps.getD 5 undef = .int .i64 (E : Int) → MI w0 ((D.put 0 (some g) E E (fun _ => .int .i64 0)).set 14 1 (.slice (some ⟨g, 0, none⟩) E E)) w' → Code.wp Try.prog tail (bodyPost Try.prog Try.f10 fun e w' => Z e w') a w') := hT
  clear hT hM hf h5 hfr fA c1 q1 hi3 hz30 hz31 hz32 b14 n14 sp
  generalize D.F 14 1 = v0 at *
  simp only [tl, rt, Try.f10, Option.getD]
  go_wp2
  exact HTL.out _ _ wr.heap.size ⟨by kernel_rfl, by kernel_rfl, by kernel_rfl, by kernel_rfl, by kernel_rfl, by kernel_rfl⟩ (by kernel_rfl) fin.out

set_option maxRecDepth 40000 in
set_option maxHeartbeats 4000000 in
theorem md_31 (w0 : World) (n E : Nat) (a0 : Option Addr) (k0 ga gm : Nat) (hE : E ≤ 4096) (D : Fam) (wr : World) (hM : MI w0 D wr) (b14 : D.b 14 = some gm) (n14 : D.n 14 = 1) (a : Act) (hf : FM a0 n k0 ga gm a) (h5 : a.tmps.getD 5 undef = .int .i64 (E : Int)) (tail : Code) (Z : Ending → World → Prop)
    (hT : ∀ (a : Act) (w' : World) (g : Nat), FM a0 n k0 ga gm a → a.tmps.getD 5 undef = .int .i64 (E : Int) → MI w0 ((D.put 1 (some g) E E (fun _ => .int .i64 0)).set 14 2 (.slice (some ⟨g, 0, none⟩) E E)) w' → Code.wp Try.prog tail (bodyPost Try.prog Try.f10 fun e w' => Z e w') a w') :
    Code.wp Try.prog (rt 1 (tl 7 (Try.f10.body.getD .skip)) tail) (bodyPost Try.prog Try.f10 fun e w' => Z e w') a wr := by
  obtain ⟨y, rfl⟩ := litm5 hf.sz hf.df hf.s0 hf.s2 hf.s3 hf.s4 h5
  obtain ⟨i3, hi3, hz30, hz31, hz32⟩ := info_parts Try.info3
  obtain ⟨mk, hmk, hfr⟩ := make_fun (P := Try.prog) 26 3 i3 (.int .i64 0) 1 8 (.int .i64 0) Try.underlying26 hi3 hz30 hz31 hz32 rfl (by decide) zero1 E (by omega) (by omega)
  have c1 := hM.rep.cell b14 (j := 2) (by rw [n14]; decide)
  have q1 := hM.rep.frozen b14 2
  have sp := hM.rep.lt b14
  have fA := hfr wr
  have d1 : (mk wr).cell? ⟨gm, 2, none⟩ = some (D.F 14 2) := (fA.cell_old sp).trans c1
  have u1 : (mk wr).frozen? ⟨gm, 2, none⟩ = false := (fA.frozen_old sp).trans q1
  have fin : Hid (MI w0 ((D.put 1 (some wr.heap.size) E E (fun _ => .int .i64 0)).set 14 2 (.slice (some ⟨wr.heap.size, 0, none⟩) E E)) ((mk wr).setCell ⟨gm, 2, none⟩ (.slice (some ⟨wr.heap.size, 0, none⟩) E E))) := hM.lay b14 (by decide) rfl fA
  have HTL : Hid (∀ (a : Act) (w' : World) (g : Nat), FM a0 n k0 ga gm a → a.tmps.getD 5 undef = .int .i64 (E : Int) → MI w0 ((D.put 1 (some g) E E (fun _ => .int .i64 0)).set 14 2 (.slice (some ⟨g, 0, none⟩) E E)) w' → Code.wp Try.prog tail (bodyPost Try.prog Try.f10 fun e w' => Z e w') a w') := hT
  clear hT hM hf h5 hfr fA c1 q1 hi3 hz30 hz31 hz32 b14 n14 sp
  generalize D.F 14 2 = v0 at *
  simp only [tl, rt, Try.f10, Option.getD]
  go_wp2
  exact HTL.out _ _ wr.heap.size ⟨by kernel_rfl, by kernel_rfl, by kernel_rfl, by kernel_rfl, by kernel_rfl, by kernel_rfl⟩ (by kernel_rfl) fin.out

set_option maxRecDepth 40000 in
set_option maxHeartbeats 4000000 in
theorem md_32 (w0 : World) (n E : Nat) (a0 : Option Addr) (k0 ga gm : Nat) (hE : E ≤ 4096) (D : Fam) (wr : World) (hM : MI w0 D wr) (b14 : D.b 14 = some gm) (n14 : D.n 14 = 1) (a : Act) (hf : FM a0 n k0 ga gm a) (h5 : a.tmps.getD 5 undef = .int .i64 (E : Int)) (tail : Code) (Z : Ending → World → Prop)
    (hT : ∀ (a : Act) (w' : World) (g : Nat), FM a0 n k0 ga gm a → a.tmps.getD 5 undef = .int .i64 (E : Int) → MI w0 ((D.put 2 (some g) E E (fun _ => .bool false)).set 14 3 (.slice (some ⟨g, 0, none⟩) E E)) w' → Code.wp Try.prog tail (bodyPost Try.prog Try.f10 fun e w' => Z e w') a w') :
    Code.wp Try.prog (rt 1 (tl 8 (Try.f10.body.getD .skip)) tail) (bodyPost Try.prog Try.f10 fun e w' => Z e w') a wr := by
  obtain ⟨y, rfl⟩ := litm5 hf.sz hf.df hf.s0 hf.s2 hf.s3 hf.s4 h5
  obtain ⟨i3, hi3, hz30, hz31, hz32⟩ := info_parts Try.info4
  obtain ⟨mk, hmk, hfr⟩ := make_fun (P := Try.prog) 27 4 i3 (.bool false) 1 1 (.bool false) Try.underlying27 hi3 hz30 hz31 hz32 rfl (by decide) zeroB E (by omega) (by omega)
  have c1 := hM.rep.cell b14 (j := 3) (by rw [n14]; decide)
  have q1 := hM.rep.frozen b14 3
  have sp := hM.rep.lt b14
  have fA := hfr wr
  have d1 : (mk wr).cell? ⟨gm, 3, none⟩ = some (D.F 14 3) := (fA.cell_old sp).trans c1
  have u1 : (mk wr).frozen? ⟨gm, 3, none⟩ = false := (fA.frozen_old sp).trans q1
  have fin : Hid (MI w0 ((D.put 2 (some wr.heap.size) E E (fun _ => .bool false)).set 14 3 (.slice (some ⟨wr.heap.size, 0, none⟩) E E)) ((mk wr).setCell ⟨gm, 3, none⟩ (.slice (some ⟨wr.heap.size, 0, none⟩) E E))) := hM.lay b14 (by decide) rfl fA
  have HTL : Hid (∀ (a : Act) (w' : World) (g : Nat), FM a0 n k0 ga gm a → a.tmps.getD 5 undef = .int .i64 (E : Int) → MI w0 ((D.put 2 (some g) E E (fun _ => .bool false)).set 14 3 (.slice (some ⟨g, 0, none⟩) E E)) w' → Code.wp Try.prog tail (bodyPost Try.prog Try.f10 fun e w' => Z e w') a w') := hT
  clear hT hM hf h5 hfr fA c1 q1 hi3 hz30 hz31 hz32 b14 n14 sp
  generalize D.F 14 3 = v0 at *
  simp only [tl, rt, Try.f10, Option.getD]
  go_wp2
  exact HTL.out _ _ wr.heap.size ⟨by kernel_rfl, by kernel_rfl, by kernel_rfl, by kernel_rfl, by kernel_rfl, by kernel_rfl⟩ (by kernel_rfl) fin.out

set_option maxRecDepth 40000 in
set_option maxHeartbeats 4000000 in
theorem md_33 (w0 : World) (n E : Nat) (a0 : Option Addr) (k0 ga gm : Nat) (hE : E ≤ 4096) (D : Fam) (wr : World) (hM : MI w0 D wr) (b14 : D.b 14 = some gm) (n14 : D.n 14 = 1) (a : Act) (hf : FM a0 n k0 ga gm a) (h5 : a.tmps.getD 5 undef = .int .i64 (E : Int)) (tail : Code) (Z : Ending → World → Prop)
    (hT : ∀ (a : Act) (w' : World) (g : Nat), FM a0 n k0 ga gm a → a.tmps.getD 5 undef = .int .i64 (E : Int) → MI w0 ((D.put 3 (some g) E E (fun _ => .int .i64 0)).set 14 4 (.slice (some ⟨g, 0, none⟩) E E)) w' → Code.wp Try.prog tail (bodyPost Try.prog Try.f10 fun e w' => Z e w') a w') :
    Code.wp Try.prog (rt 1 (tl 9 (Try.f10.body.getD .skip)) tail) (bodyPost Try.prog Try.f10 fun e w' => Z e w') a wr := by
  obtain ⟨y, rfl⟩ := litm5 hf.sz hf.df hf.s0 hf.s2 hf.s3 hf.s4 h5
  obtain ⟨i3, hi3, hz30, hz31, hz32⟩ := info_parts Try.info3
  obtain ⟨mk, hmk, hfr⟩ := make_fun (P := Try.prog) 26 3 i3 (.int .i64 0) 1 8 (.int .i64 0) Try.underlying26 hi3 hz30 hz31 hz32 rfl (by decide) zero1 E (by omega) (by omega)
  have c1 := hM.rep.cell b14 (j := 4) (by rw [n14]; decide)
  have q1 := hM.rep.frozen b14 4
  have sp := hM.rep.lt b14
  have fA := hfr wr
  have d1 : (mk wr).cell? ⟨gm, 4, none⟩ = some (D.F 14 4) := (fA.cell_old sp).trans c1
  have u1 : (mk wr).frozen? ⟨gm, 4, none⟩ = false := (fA.frozen_old sp).trans q1
  have fin : Hid (MI w0 ((D.put 3 (some wr.heap.size) E E (fun _ => .int .i64 0)).set 14 4 (.slice (some ⟨wr.heap.size, 0, none⟩) E E)) ((mk wr).setCell ⟨gm, 4, none⟩ (.slice (some ⟨wr.heap.size, 0, none⟩) E E))) := hM.lay b14 (by decide) rfl fA
  have HTL : Hid (∀ (a : Act) (w' : World) (g : Nat), FM a0 n k0 ga gm a → a.tmps.getD 5 undef = .int .i64 (E : Int) → MI w0 ((D.put 3 (some g) E E (fun _ => .int .i64 0)).set 14 4 (.slice (some ⟨g, 0, none⟩) E E)) w' → Code.wp Try.prog tail (bodyPost Try.prog Try.f10 fun e w' => Z e w') a w') := hT
  clear hT hM hf h5 hfr fA c1 q1 hi3 hz30 hz31 hz32 b14 n14 sp
  generalize D.F 14 4 = v0 at *
  simp only [tl, rt, Try.f10, Option.getD]
  go_wp2
  exact HTL.out _ _ wr.heap.size ⟨by kernel_rfl, by kernel_rfl, by kernel_rfl, by kernel_rfl, by kernel_rfl, by kernel_rfl⟩ (by kernel_rfl) fin.out

/-- The memory once the four lists are laid. -/
structure DS (w0 : World) (n E ga gm g0 g1 g2 g3 : Nat) (src dst cls : Nat → Int) (onc : Nat → Bool) (D : Fam) (wr : World) : Prop where
  rep : Rep KD wr D
  grew : Grew Fam.nil w0 D wr
  b15 : D.b 15 = some ga
  n15 : D.n 15 = 1
  F15 : ∀ j, j < 6 → D.F 15 j = zfl j
  b14 : D.b 14 = some gm
  n14 : D.n 14 = 1
  F14 : ∀ j, j < 6 → D.F 14 j = mfl n (.slice (some ⟨g0, 0, none⟩) E E) (.slice (some ⟨g1, 0, none⟩) E E) (.slice (some ⟨g2, 0, none⟩) E E) (.slice (some ⟨g3, 0, none⟩) E E) 0 j
  b0 : D.b 0 = some g0
  b1 : D.b 1 = some g1
  b2 : D.b 2 = some g2
  b3 : D.b 3 = some g3
  i0 : Ints D 0 E src
  i1 : Ints D 1 E dst
  i2 : Bools D 2 E onc
  i3 : Ints D 3 E cls
def D4 (n E ga gm g0 g1 g2 g3 : Nat) : Fam :=
  ((((((((D0 n ga gm).put 0 (some g0) E E (fun _ => .int .i64 0)).set 14 1 (.slice (some ⟨g0, 0, none⟩) E E)).put 1 (some g1) E E (fun _ => .int .i64 0)).set 14 2 (.slice (some ⟨g1, 0, none⟩) E E)).put 2 (some g2) E E (fun _ => .bool false)).set 14 3 (.slice (some ⟨g2, 0, none⟩) E E)).put 3 (some g3) E E (fun _ => .int .i64 0)).set 14 4 (.slice (some ⟨g3, 0, none⟩) E E)
theorem DS.start {w0 wr : World} {n E ga gm g0 g1 g2 g3 : Nat} (h : MI w0 (D4 n E ga gm g0 g1 g2 g3) wr) : DS w0 n E ga gm g0 g1 g2 g3 (fun _ => 0) (fun _ => 0) (fun _ => 0) (fun _ => false) (D4 n E ga gm g0 g1 g2 g3) wr where
  rep := h.rep
  grew := h.grew
  b15 := rfl
  n15 := rfl
  F15 j hj := by
    match j, hj with
    | 0, _ => rfl
    | 1, _ => rfl
    | 2, _ => rfl
    | 3, _ => rfl
    | 4, _ => rfl
    | 5, _ => rfl
  b14 := rfl
  n14 := rfl
  F14 j hj := by
    match j, hj with
    | 0, _ => rfl
    | 1, _ => rfl
    | 2, _ => rfl
    | 3, _ => rfl
    | 4, _ => rfl
    | 5, _ => rfl
  b0 := rfl
  b1 := rfl
  b2 := rfl
  b3 := rfl
  i0 := ⟨rfl, fun _ _ => rfl⟩
  i1 := ⟨rfl, fun _ _ => rfl⟩
  i2 := ⟨rfl, fun _ _ => rfl⟩
  i3 := ⟨rfl, fun _ _ => rfl⟩

section
variable {w0 wr : World} {n E ga gm g0 g1 g2 g3 : Nat} {src dst cls : Nat → Int} {onc : Nat → Bool} {D : Fam}
theorem DS.hd (h : DS w0 n E ga gm g0 g1 g2 g3 src dst cls onc D wr) {f : Nat} (hf : f < 6) : wr.cell? ⟨gm, f, none⟩ = some (mfl n (.slice (some ⟨g0, 0, none⟩) E E) (.slice (some ⟨g1, 0, none⟩) E E) (.slice (some ⟨g2, 0, none⟩) E E) (.slice (some ⟨g3, 0, none⟩) E E) 0 f) := by
  rw [h.rep.cell h.b14 (by rw [h.n14]; show f < 1 * 6; omega), h.F14 f hf]
theorem DS.drew (h : DS w0 n E ga gm g0 g1 g2 g3 src dst cls onc D wr) : DS w0 n E ga gm g0 g1 g2 g3 src dst cls onc D wr.drew := ⟨h.rep.drew, h.grew.drew, h.b15, h.n15, h.F15, h.b14, h.n14, h.F14, h.b0, h.b1, h.b2, h.b3, h.i0, h.i1, h.i2, h.i3⟩
theorem DS.drewN (h : DS w0 n E ga gm g0 g1 g2 g3 src dst cls onc D wr) (k : Nat) : DS w0 n E ga gm g0 g1 g2 g3 src dst cls onc D (wr.drewN k) := ⟨h.rep.drewN k, h.grew.drewN k, h.b15, h.n15, h.F15, h.b14, h.n14, h.F14, h.b0, h.b1, h.b2, h.b3, h.i0, h.i1, h.i2, h.i3⟩
theorem DS.set0 (h : DS w0 n E ga gm g0 g1 g2 g3 src dst cls onc D wr) (j : Nat) (x : Int) : DS w0 n E ga gm g0 g1 g2 g3 (upd src j x) dst cls onc (D.set 0 j (.int .i64 x)) (wr.setCell ⟨g0, j, none⟩ (.int .i64 x)) :=
  ⟨h.rep.set h.b0 j _, h.grew.set ⟨0, h.b0⟩ _ _ _ _, h.b15, h.n15, fun k hk => (set_F _ (by decide)).trans (h.F15 k hk), h.b14, h.n14, fun k hk => (set_F _ (by decide)).trans (h.F14 k hk), h.b0, h.b1, h.b2, h.b3, h.i0.set, h.i1.set_ne (by decide), h.i2.set_ne (by decide), h.i3.set_ne (by decide)⟩
theorem DS.set1 (h : DS w0 n E ga gm g0 g1 g2 g3 src dst cls onc D wr) (j : Nat) (x : Int) : DS w0 n E ga gm g0 g1 g2 g3 src (upd dst j x) cls onc (D.set 1 j (.int .i64 x)) (wr.setCell ⟨g1, j, none⟩ (.int .i64 x)) :=
  ⟨h.rep.set h.b1 j _, h.grew.set ⟨1, h.b1⟩ _ _ _ _, h.b15, h.n15, fun k hk => (set_F _ (by decide)).trans (h.F15 k hk), h.b14, h.n14, fun k hk => (set_F _ (by decide)).trans (h.F14 k hk), h.b0, h.b1, h.b2, h.b3, h.i0.set_ne (by decide), h.i1.set, h.i2.set_ne (by decide), h.i3.set_ne (by decide)⟩
theorem DS.set2 (h : DS w0 n E ga gm g0 g1 g2 g3 src dst cls onc D wr) (j : Nat) (x : Bool) : DS w0 n E ga gm g0 g1 g2 g3 src dst cls (upb onc j x) (D.set 2 j (.bool x)) (wr.setCell ⟨g2, j, none⟩ (.bool x)) :=
  ⟨h.rep.set h.b2 j _, h.grew.set ⟨2, h.b2⟩ _ _ _ _, h.b15, h.n15, fun k hk => (set_F _ (by decide)).trans (h.F15 k hk), h.b14, h.n14, fun k hk => (set_F _ (by decide)).trans (h.F14 k hk), h.b0, h.b1, h.b2, h.b3, h.i0.set_ne (by decide), h.i1.set_ne (by decide), h.i2.set, h.i3.set_ne (by decide)⟩
theorem DS.set3 (h : DS w0 n E ga gm g0 g1 g2 g3 src dst cls onc D wr) (j : Nat) (x : Int) : DS w0 n E ga gm g0 g1 g2 g3 src dst (upd cls j x) onc (D.set 3 j (.int .i64 x)) (wr.setCell ⟨g3, j, none⟩ (.int .i64 x)) :=
  ⟨h.rep.set h.b3 j _, h.grew.set ⟨3, h.b3⟩ _ _ _ _, h.b15, h.n15, fun k hk => (set_F _ (by decide)).trans (h.F15 k hk), h.b14, h.n14, fun k hk => (set_F _ (by decide)).trans (h.F14 k hk), h.b0, h.b1, h.b2, h.b3, h.i0.set_ne (by decide), h.i1.set_ne (by decide), h.i2.set_ne (by decide), h.i3.set⟩
/-- A row that is none of the model's. -/
def Aux (r : Nat) : Prop := 4 ≤ r ∧ r ≠ 14 ∧ r ≠ 15
theorem DS.setA (h : DS w0 n E ga gm g0 g1 g2 g3 src dst cls onc D wr) {r g : Nat} (hr : Aux r) (hb : D.b r = some g) (j : Nat) (v : Value) : DS w0 n E ga gm g0 g1 g2 g3 src dst cls onc (D.set r j v) (wr.setCell ⟨g, j, none⟩ v) := by
  obtain ⟨r1, r2, r3⟩ := hr
  exact ⟨h.rep.set hb j _, h.grew.set ⟨r, hb⟩ _ _ _ _, h.b15, h.n15, fun k hk => (set_F _ (by omega)).trans (h.F15 k hk), h.b14, h.n14, fun k hk => (set_F _ (by omega)).trans (h.F14 k hk), h.b0, h.b1, h.b2, h.b3, h.i0.set_ne (by omega), h.i1.set_ne (by omega), h.i2.set_ne (by omega), h.i3.set_ne (by omega)⟩
theorem DS.putA (h : DS w0 n E ga gm g0 g1 g2 g3 src dst cls onc D wr) {r : Nat} (hr : Aux r) {b : Option Nat} {m cap : Nat} {F : Nat → Value} {w' : World} (hR : Rep KD w' (D.put r b m cap F)) (hG : Grew Fam.nil w0 (D.put r b m cap F) w') : DS w0 n E ga gm g0 g1 g2 g3 src dst cls onc (D.put r b m cap F) w' := by
  obtain ⟨r1, r2, r3⟩ := hr
  exact ⟨hR, hG, (put_b (by omega)).trans h.b15, (put_n (by omega)).trans h.n15, fun k hk => by rw [put_F (by omega)]; exact h.F15 k hk, (put_b (by omega)).trans h.b14, (put_n (by omega)).trans h.n14, fun k hk => by rw [put_F (by omega)]; exact h.F14 k hk, (put_b (by omega)).trans h.b0, (put_b (by omega)).trans h.b1, (put_b (by omega)).trans h.b2, (put_b (by omega)).trans h.b3, h.i0.put_ne (by omega), h.i1.put_ne (by omega), h.i2.put_ne (by omega), h.i3.put_ne (by omega)⟩
theorem DS.freshA (h : DS w0 n E ga gm g0 g1 g2 g3 src dst cls onc D wr) {r e sz g m cap : Nat} {F : Nat → Value} {w' : World} (hr : Aux r) (hK : KD r = (e, sz)) (fr : Fresh wr w' e sz g m cap F) : DS w0 n E ga gm g0 g1 g2 g3 src dst cls onc (D.put r (some g) m cap F) w' :=
  h.putA hr (fr.rep h.rep r hK) (h.grew.trans (fr.grew _ r))
theorem DS.butA (h : DS w0 n E ga gm g0 g1 g2 g3 src dst cls onc D wr) {r : Nat} (hr : Aux r) {D' : Fam} {w' : World} (hR : Rep KD w' D') (hB : But r D D') (hG : Grew Fam.nil w0 D' w') : DS w0 n E ga gm g0 g1 g2 g3 src dst cls onc D' w' := by
  obtain ⟨r1, r2, r3⟩ := hr
  have e2 : D'.F 2 = D.F 2 := hB.F 2 (by omega)
  exact ⟨hR, hG, by rw [hB.b]; exact h.b15, by rw [hB.n]; exact h.n15, fun k hk => by rw [hB.F 15 (by omega)]; exact h.F15 k hk, by rw [hB.b]; exact h.b14, by rw [hB.n]; exact h.n14, fun k hk => by rw [hB.F 14 (by omega)]; exact h.F14 k hk, by rw [hB.b]; exact h.b0, by rw [hB.b]; exact h.b1, by rw [hB.b]; exact h.b2, by rw [hB.b]; exact h.b3, hB.ints (by omega) h.i0, hB.ints (by omega) h.i1, ⟨by rw [hB.n]; exact h.i2.1, fun j hj => by rw [e2]; exact h.i2.2 j hj⟩, hB.ints (by omega) h.i3⟩
end

set_option maxRecDepth 40000 in
set_option maxHeartbeats 4000000 in
/-- Regions 9 to 13. -/
theorem md_3 (w0 : World) (n E : Nat) (a0 : Option Addr) (k0 ga gm : Nat) (hE : E ≤ 4096) (wr : World) (hM : MI w0 (D0 n ga gm) wr) (a : Act) (hf : FM a0 n k0 ga gm a) (h5 : a.tmps.getD 5 undef = .int .i64 (E : Int)) (tail : Code) (Z : Ending → World → Prop)
    (hT : ∀ (a : Act) (w' : World) (g0 g1 g2 g3 : Nat), FM a0 n k0 ga gm a → a.tmps.getD 5 undef = .int .i64 (E : Int) → a.tmps.getD 7 undef = .int .i64 0 → DS w0 n E ga gm g0 g1 g2 g3 (fun _ => 0) (fun _ => 0) (fun _ => 0) (fun _ => false) (D4 n E ga gm g0 g1 g2 g3) w' → Code.wp Try.prog tail (bodyPost Try.prog Try.f10 fun e w' => Z e w') a w') :
    Code.wp Try.prog (rt 5 (tl 6 (Try.f10.body.getD .skip)) tail) (bodyPost Try.prog Try.f10 fun e w' => Z e w') a wr := by
  refine md_30 w0 n E a0 k0 ga gm hE _ wr hM rfl rfl a hf h5 (rt 4 (tl 7 (Try.f10.body.getD .skip)) tail) Z (fun a w g0 hf h5 hM => ?_)
  refine md_31 w0 n E a0 k0 ga gm hE _ w hM rfl rfl a hf h5 (rt 3 (tl 8 (Try.f10.body.getD .skip)) tail) Z (fun a w g1 hf h5 hM => ?_)
  refine md_32 w0 n E a0 k0 ga gm hE _ w hM rfl rfl a hf h5 (rt 2 (tl 9 (Try.f10.body.getD .skip)) tail) Z (fun a w g2 hf h5 hM => ?_)
  refine md_33 w0 n E a0 k0 ga gm hE _ w hM rfl rfl a hf h5 (rt 1 (tl 10 (Try.f10.body.getD .skip)) tail) Z (fun a w g3 hf h5 hM => ?_)
  have fin := DS.start hM
  obtain ⟨y, rfl⟩ := litm5 hf.sz hf.df hf.s0 hf.s2 hf.s3 hf.s4 h5
  have HTL : Hid (Code.wp Try.prog tail (bodyPost Try.prog Try.f10 fun e w' => Z e w') { tmps := #[.slice a0 n k0, y 1, .pointer (some ⟨ga, 0, none⟩), .int .i64 (n : Int), .pointer (some ⟨gm, 0, none⟩), .int .i64 (E : Int), y 6, .int .i64 0, y 8, y 9, y 10, y 11, y 12, y 13, y 14, y 15, y 16, y 17, y 18, y 19, y 20, y 21, y 22, y 23, y 24, y 25, y 26, y 27, y 28, y 29, y 30, y 31, y 32, y 33, y 34, y 35, y 36, y 37, y 38, y 39, y 40, y 41, y 42, y 43, y 44, y 45, y 46, y 47, y 48, y 49, y 50, y 51, y 52, y 53, y 54, y 55, y 56, y 57, y 58, y 59, y 60, y 61, y 62, y 63, y 64, y 65, y 66, y 67, y 68, y 69, y 70, y 71, y 72, y 73, y 74, y 75, y 76, y 77, y 78, y 79, y 80, y 81, y 82, y 83, y 84, y 85, y 86, y 87, y 88, y 89, y 90, y 91, y 92, y 93, y 94, y 95, y 96, y 97, y 98, y 99, y 100, y 101, y 102, y 103, y 104, y 105, y 106, y 107, y 108, y 109, y 110, y 111, y 112, y 113, y 114, y 115, y 116, y 117, y 118, y 119, y 120, y 121, y 122, y 123, y 124, y 125, y 126, y 127, y 128, y 129, y 130, y 131, y 132, y 133, y 134, y 135, y 136, y 137, y 138, y 139, y 140, y 141, y 142, y 143, y 144, y 145, y 146, y 147, y 148, y 149, y 150, y 151, y 152, y 153, y 154, y 155, y 156, y 157, y 158, y 159, y 160, y 161, y 162, y 163, y 164, y 165, y 166, y 167, y 168, y 169, y 170, y 171, y 172, y 173, y 174, y 175, y 176, y 177, y 178, y 179, y 180, y 181, y 182, y 183, y 184, y 185, y 186, y 187, y 188, y 189, y 190, y 191, y 192, y 193, y 194, y 195, y 196, y 197, y 198, y 199, y 200, y 201, y 202, y 203, y 204, y 205, y 206, y 207, y 208, y 209, y 210, y 211, y 212, y 213, y 214, y 215, y 216, y 217, y 218, y 219, y 220, y 221, y 222, y 223, y 224, y 225, y 226, y 227, y 228, y 229, y 230, y 231, y 232, y 233, y 234, y 235, y 236, y 237, y 238, y 239, y 240, y 241, y 242, y 243, y 244, y 245, y 246, y 247, y 248, y 249, y 250, y 251, y 252, y 253, y 254, y 255, y 256, y 257, y 258, y 259, y 260, y 261, y 262, y 263, y 264, y 265, y 266, y 267, y 268, y 269, y 270, y 271, y 272, y 273, y 274, y 275, y 276, y 277, y 278, y 279, y 280, y 281, y 282, y 283, y 284, y 285, y 286, y 287, y 288, y 289, y 290, y 291, y 292, y 293, y 294, y 295, y 296, y 297, y 298, y 299, y 300, y 301, y 302, y 303, y 304, y 305, y 306, y 307, y 308, y 309, y 310, y 311, y 312, y 313, y 314, y 315, y 316, y 317, y 318, y 319, y 320, y 321, y 322, y 323, y 324, y 325, y 326, y 327, y 328, y 329, y 330, y 331, y 332, y 333, y 334, y 335, y 336, y 337, y 338, y 339, y 340, y 341, y 342, y 343, y 344, y 345, y 346, y 347, y 348, y 349, y 350, y 351, y 352, y 353, y 354, y 355, y 356, y 357, y 358, y 359, y 360, y 361, y 362, y 363, y 364, y 365, y 366, y 367, y 368, y 369, y 370, y 371, y 372, y 373, y 374, y 375, y 376, y 377, y 378, y 379, y 380, y 381, y 382, y 383, y 384, y 385, y 386, y 387, y 388, y 389, y 390, y 391, y 392, y 393, y 394, y 395, y 396, y 397, y 398, y 399, y 400, y 401, y 402, y 403, y 404, y 405, y 406, y 407, y 408, y 409, y 410, y 411, y 412, y 413, y 414, y 415, y 416, y 417, y 418, y 419, y 420, y 421, y 422, y 423, y 424, y 425, y 426, y 427, y 428, y 429, y 430, y 431, y 432, y 433, y 434, y 435, y 436, y 437, y 438, y 439, y 440, y 441, y 442, y 443, y 444, y 445, y 446, y 447, y 448, y 449, y 450], defers := [] } w) := hT _ w g0 g1 g2 g3 ⟨by kernel_rfl, by kernel_rfl, by kernel_rfl, by kernel_rfl, by kernel_rfl, by kernel_rfl⟩ (by kernel_rfl) (by kernel_rfl) fin
  clear hT hM hf h5 fin
  simp only [tl, rt, Try.f10, Option.getD]
  go_wp2
  exact HTL.out
end Go.Proofs.Qxb6602148a
