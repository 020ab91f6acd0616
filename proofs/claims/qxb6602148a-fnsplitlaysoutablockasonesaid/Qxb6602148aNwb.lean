import Derived.Test.Qxb6602148aNwa
attribute [local go_sem] Go.Proofs.Qxb6602148a.yTo Go.Proofs.Qxb6602148a.yUpon
namespace Go.Proofs.Qxb6602148a
open Go.RowKit
set_option linter.unusedVariables false
set_option linter.unusedSimpArgs false

theorem make_room {P : Program} (t e : TypeId) (i : TypeInfo) (z : Value) (size bytes : Nat) (h1 : P.underlying t = some (.slice e)) (h2 : P.info? e = some i) (h3 : i.zero = some z) (h4 : i.size = size) (h5 : i.bytes = bytes)
    (m : Nat) (F : Nat → Value) (b2 : bytes * m ≤ 281474976710656) (b3 : m ≤ 1000000000) : ∃ mk : World → World, (∀ W, Sem.run P (Instr.makeSlice t (.int .i64 0) (.int .i64 (m : Int))) W = .ok (.slice (some ⟨W.heap.size, 0, none⟩) 0 m) (mk W)) ∧ ∀ W, Fresh W (mk W) e size W.heap.size 0 m F := by
  subst h4 h5
  refine ⟨fun W => W.alloc (.cells (madeCells z.cells (m * i.size)) e), fun W => ?_, fun W => ?_⟩
  · have h6 : ((i.bytes * m : Nat) : Int) ≤ 281474976710656 := by omega
    rw [Int.natCast_mul] at h6
    have hr := run_make (P := P) (w := W) t e i z h1 h2 h3 .i64 .i64 0 m (Int.le_refl _) (by omega) h6 (by omega)
    simp only [Int.toNat_natCast] at hr
    exact hr
  · exact ⟨rfl, rfl, rfl, by simp, fun k hk => Below.heap_alloc _ _ _ hk, Nat.le_refl _, _, heap_alloc_new W _, Nat.zero_le _, by simp only [maxLen]; omega, size_madeCells _ _, fun j hj => by omega⟩
theorem Fresh.cell_old {w w' : World} {e : TypeId} {sz g n cap : Nat} {F : Nat → Value} (h : Fresh w w' e sz g n cap F) {b o : Nat} (hb : b < w.heap.size) : w'.cell? ⟨b, o, none⟩ = w.cell? ⟨b, o, none⟩ := by
  simp only [World.cell?, h.old b hb]
theorem Fresh.frozen_old {w w' : World} {e : TypeId} {sz g n cap : Nat} {F : Nat → Value} (h : Fresh w w' e sz g n cap F) {b o : Nat} (hb : b < w.heap.size) : w'.frozen? ⟨b, o, none⟩ = w.frozen? ⟨b, o, none⟩ := by
  simp only [World.frozen?, h.old b hb]

/-- The partition before its first slot. -/
def PN0 (G : GR) : PS := ((P01 G G.n).layE G.E).newComp

theorem NIn.layft {w wr : World} {M : Fam} {p : Nat} {P : PS} (h : NIn w p wr M P) {wa wb : World} {g1 g2 E : Nat} (f1 : Fresh wr wa 3 1 g1 E E (fun _ => .int .i64 0)) (f2 : Fresh wa wb 3 1 g2 E E (fun _ => .int .i64 0)) : NIn w p ((wb.setCell ⟨p, 1, none⟩ (.slice (some ⟨g1, 0, none⟩) E E)).setCell ⟨p, 2, none⟩ (.slice (some ⟨g2, 0, none⟩) E E)) (layF M g1 g2 E) (P.layE E) := by
  have r := f2.rep (f1.rep h.rep 1 rfl) 2 rfl
  have b : ((M.put 1 (some g1) E E (fun _ => .int .i64 0)).put 2 (some g2) E E (fun _ => .int .i64 0)).b 11 = some p := by rw [put_b (by omega), put_b (by omega)]; exact h.b11
  exact ⟨(r.set b 1 _).set (i := 11) b 2 _, h.pm.lay_ft g1 g2 E, (((h.grew.trans (f1.grew _ 1)).trans (f2.grew _ 2)).set ⟨11, b⟩ _ _ _ _).set ⟨11, b⟩ _ _ _ _, b⟩
theorem NIn.layft' {w wr : World} {M : Fam} {p : Nat} {P : PS} (h : NIn w p wr M P) {wa wb : World} {g1 g2 E : Nat} (f2 : Fresh wr wa 3 1 g2 E E (fun _ => .int .i64 0)) (f1 : Fresh wa wb 3 1 g1 E E (fun _ => .int .i64 0)) : NIn w p ((wb.setCell ⟨p, 1, none⟩ (.slice (some ⟨g1, 0, none⟩) E E)).setCell ⟨p, 2, none⟩ (.slice (some ⟨g2, 0, none⟩) E E)) (layF M g1 g2 E) (P.layE E) := by
  have r := f1.rep (f2.rep h.rep 2 rfl) 1 rfl
  have g := (h.grew.trans (f2.grew _ 2)).trans (f1.grew _ 1)
  rw [put_comm (by omega)] at r g
  have b : ((M.put 1 (some g1) E E (fun _ => .int .i64 0)).put 2 (some g2) E E (fun _ => .int .i64 0)).b 11 = some p := by rw [put_b (by omega), put_b (by omega)]; exact h.b11
  exact ⟨(r.set b 1 _).set (i := 11) b 2 _, h.pm.lay_ft g1 g2 E, (g.set ⟨11, b⟩ _ _ _ _).set ⟨11, b⟩ _ _ _ _, b⟩
theorem NIn.layft3 {w wr : World} {M : Fam} {p : Nat} {P : PS} (h : NIn w p wr M P) {wa wb : World} {g1 g2 E : Nat} (f1 : Fresh wr wa 3 1 g1 E E (fun _ => .int .i64 0)) (f2 : Fresh (wa.setCell ⟨p, 1, none⟩ (.slice (some ⟨g1, 0, none⟩) E E)) wb 3 1 g2 E E (fun _ => .int .i64 0)) : NIn w p (wb.setCell ⟨p, 2, none⟩ (.slice (some ⟨g2, 0, none⟩) E E)) (layF M g1 g2 E) (P.layE E) := by
  have b1 : (M.put 1 (some g1) E E (fun _ => .int .i64 0)).b 11 = some p := by rw [put_b (by omega)]; exact h.b11
  have r := f2.rep ((f1.rep h.rep 1 rfl).set b1 1 (.slice (some ⟨g1, 0, none⟩) E E)) 2 rfl
  have g := ((h.grew.trans (f1.grew _ 1)).set (j := 1) ⟨11, b1⟩ 11 1 (.slice (some ⟨g1, 0, none⟩) E E) (.slice (some ⟨g1, 0, none⟩) E E)).trans (f2.grew _ 2)
  rw [← put_set_ne (by omega)] at r g
  have b : (((M.put 1 (some g1) E E (fun _ => .int .i64 0)).put 2 (some g2) E E (fun _ => .int .i64 0)).set 11 1 (.slice (some ⟨g1, 0, none⟩) E E)).b 11 = some p := by rw [set_b, put_b (by omega), put_b (by omega)]; exact h.b11
  exact ⟨r.set b 2 _, h.pm.lay_ft g1 g2 E, g.set ⟨11, b⟩ _ _ _ _, b⟩
theorem NIn.setp_any {w wr wa : World} {M : Fam} {p : Nat} {P : PS} (h : NIn w p wr M P) {g1 E : Nat} (f1 : Fresh wr wa 3 1 g1 E E (fun _ => .int .i64 0)) {v : Value} : Rep KP (wa.setCell ⟨p, 1, none⟩ v) ((M.put 1 (some g1) E E (fun _ => .int .i64 0)).set 11 1 v) :=
  (f1.rep h.rep 1 rfl).set (i := 11) ((put_b (by omega)).trans h.b11) 1 v
theorem NIn.lays {w wr wa : World} {M : Fam} {p : Nat} {P : PS} (h : NIn w p wr M P) (hS : P.nS = 0) {g m : Nat} {F : Nat → Value} (f : Fresh wr wa 57 7 g 0 m F) : NIn w p (wa.setCell ⟨p, 3, none⟩ (.slice (some ⟨g, 0, none⟩) 0 m)) (layS M g m F) P := by
  have r := f.rep h.rep 3 rfl
  have b : (M.put 3 (some g) 0 m F).b 11 = some p := by rw [put_b (by omega)]; exact h.b11
  exact ⟨r.set b 3 _, h.pm.lay_slots hS g m F, (h.grew.trans (f.grew _ 3)).set ⟨11, b⟩ _ _ _ _, b⟩

set_option maxRecDepth 40000 in
set_option maxHeartbeats 8000000 in
/-- Regions 7 and 8. -/
theorem np_3 (w : World) (G : GR) (a0 : Option Addr) (k0 p : Nat) (ok : G.Ok) (wr : World) (M : Fam) (hN : NIn w p wr M (P01 G G.n)) (y : Nat → Value) (tail : Code) (Z : Nat → World → Prop)
    (hT : ∀ (a : Act) (w' : World) (M : Fam), FN (.slice a0 G.n k0) p a → a.tmps.getD 6 undef = .int .i64 (G.E : Int) → NIn w p w' M ((P01 G G.n).layE G.E) → Code.wp Try.prog tail (bodyPost Try.prog Try.f26 fun e w' => ∃ p, e = .returned (.pointer (some ⟨p, 0, none⟩)) ∧ Z p w') a w') :
    Code.wp Try.prog (rt 2 (tl 3 (Try.f26.body.getD .skip)) tail) (bodyPost Try.prog Try.f26 fun e w' => ∃ p, e = .returned (.pointer (some ⟨p, 0, none⟩)) ∧ Z p w') { tmps := #[.slice a0 G.n k0, y 1, y 2, .pointer (some ⟨p, 0, none⟩), y 4, y 5, y 6, y 7, y 8, y 9, y 10, y 11, y 12, y 13, y 14, y 15, y 16, y 17, y 18, y 19, y 20, y 21, y 22, y 23, y 24, y 25, y 26, y 27, y 28, y 29, y 30, y 31, y 32, y 33, y 34, y 35, y 36, y 37, y 38, y 39, y 40, y 41, y 42, y 43, y 44, y 45, y 46, y 47, y 48, y 49, y 50, y 51, y 52, y 53, y 54, y 55, y 56, y 57, y 58, y 59, y 60, y 61, y 62, y 63, y 64, y 65, y 66, y 67, y 68, y 69, y 70, y 71, y 72, y 73, y 74, y 75, y 76, y 77, y 78, y 79, y 80, y 81, y 82, y 83, y 84, y 85, y 86, y 87, y 88, y 89, y 90, y 91, y 92, y 93, y 94, y 95, y 96, y 97, y 98, y 99, y 100, y 101, y 102, y 103, y 104, y 105, y 106, y 107, y 108, y 109, y 110, y 111, y 112, y 113, y 114, y 115, y 116, y 117, y 118, y 119, y 120, y 121, y 122, y 123, y 124, y 125, y 126, y 127, y 128, y 129, y 130, y 131, y 132, y 133, y 134, y 135, y 136, y 137, y 138, y 139, y 140, y 141, y 142, y 143, y 144, y 145, y 146, y 147, y 148, y 149, y 150, y 151, y 152, y 153], defers := [] } wr := by
  obtain ⟨i3, hi3, hz30, hz31, hz32⟩ := info_parts Try.info3
  have hn := ok.n
  have hE := ok.E
  obtain ⟨g0, b0⟩ := hN.rep.hasBlock (i := 0) (by rw [hN.pm.first.1]; show 0 < G.n + 1; omega)
  have xp := hN.pm.hdr hN.rep hN.b11 (show 0 < 11 by omega)
  rw [val_some b0, hN.pm.first.1] at xp
  have xp' : wr.cell? ⟨p, 0, none⟩ = some (.slice (some ⟨g0, 0, none⟩) (G.n + 1) (M.cap 0)) := xp
  have l0 := hN.rep.le_cap 0
  rw [hN.pm.first.1] at l0
  have l0' : G.n + 1 ≤ M.cap 0 := l0
  have x1 := hN.pm.first.cell hN.rep b0 rfl (show G.n < G.n + 1 by omega)
  have e1 : (P01 G G.n).first G.n = ((G.E : Nat) : Int) := if_pos (Nat.le_refl _)
  rw [e1] at x1
  have c1 := pcell hN.rep hN.b11 hN.pm.p (show 1 < 12 by omega) (hN.pm.hd 1 (by omega))
  have c2 := pcell hN.rep hN.b11 hN.pm.p (show 2 < 12 by omega) (hN.pm.hd 2 (by omega))
  have q1 := hN.rep.frozen hN.b11 1
  have q2 := hN.rep.frozen hN.b11 2
  have sp := hN.rep.lt hN.b11
  obtain ⟨mk, hmk, hfr⟩ := make_fun (P := Try.prog) 26 3 i3 (.int .i64 0) 1 8 (.int .i64 0) Try.underlying26 hi3 hz30 hz31 hz32 rfl (by decide) zero1 G.E (by omega) (by omega)
  have fA := hfr wr.drew
  have fB := hfr (mk wr.drew)
  have sA : p < (mk wr.drew).heap.size := Nat.lt_of_lt_of_le sp fA.size
  have d1 : (mk (mk wr.drew)).cell? ⟨p, 1, none⟩ = some (M.val 1) := ((fB.cell_old sA).trans (fA.cell_old sp)).trans c1
  have d2 : (mk (mk wr.drew)).cell? ⟨p, 2, none⟩ = some (M.val 2) := ((fB.cell_old sA).trans (fA.cell_old sp)).trans c2
  have u1 : (mk (mk wr.drew)).frozen? ⟨p, 1, none⟩ = false := ((fB.frozen_old sA).trans (fA.frozen_old sp)).trans q1
  have u2 : (mk (mk wr.drew)).frozen? ⟨p, 2, none⟩ = false := ((fB.frozen_old sA).trans (fA.frozen_old sp)).trans q2
  have fC := hfr ((mk wr.drew).setCell ⟨p, 1, none⟩ (.slice (some ⟨wr.heap.size, 0, none⟩) G.E G.E))
  have hsC : ((mk wr.drew).setCell ⟨p, 1, none⟩ (.slice (some ⟨wr.heap.size, 0, none⟩) G.E G.E)).heap.size = (mk wr.drew).heap.size := by simp [World.setCell]
  have sC : p < ((mk wr.drew).setCell ⟨p, 1, none⟩ (.slice (some ⟨wr.heap.size, 0, none⟩) G.E G.E)).heap.size := by simpa [World.setCell] using sA
  have d3 : (mk wr.drew).cell? ⟨p, 1, none⟩ = some (M.val 1) := (fA.cell_old sp).trans c1
  have u3 : (mk wr.drew).frozen? ⟨p, 1, none⟩ = false := (fA.frozen_old sp).trans q1
  have d4 : (mk ((mk wr.drew).setCell ⟨p, 1, none⟩ (.slice (some ⟨wr.heap.size, 0, none⟩) G.E G.E))).cell? ⟨p, 2, none⟩ = some (M.val 2) := ((fC.cell_old sC).trans (cell_other_off (by omega))).trans ((fA.cell_old sp).trans c2)
  have u4 : (mk ((mk wr.drew).setCell ⟨p, 1, none⟩ (.slice (some ⟨wr.heap.size, 0, none⟩) G.E G.E))).frozen? ⟨p, 2, none⟩ = false := (fC.frozen_old sC).trans ((hN.drew.setp_any fA).frozen (i := 11) (by rw [set_b, put_b (by omega)]; exact hN.b11) 2)
  have fin3 : Hid (NIn w p ((mk ((mk wr.drew).setCell ⟨p, 1, none⟩ (.slice (some ⟨wr.heap.size, 0, none⟩) G.E G.E))).setCell ⟨p, 2, none⟩ (.slice (some ⟨(mk wr.drew).heap.size, 0, none⟩) G.E G.E)) (layF M wr.heap.size (mk wr.drew).heap.size G.E) ((P01 G G.n).layE G.E)) := by
    have h5 := hN.drew.layft3 fA fC
    rw [hsC] at h5
    exact h5
  have fin1 : Hid (NIn w p (((mk (mk wr.drew)).setCell ⟨p, 1, none⟩ (.slice (some ⟨wr.heap.size, 0, none⟩) G.E G.E)).setCell ⟨p, 2, none⟩ (.slice (some ⟨(mk wr.drew).heap.size, 0, none⟩) G.E G.E)) _ ((P01 G G.n).layE G.E)) := hN.drew.layft fA fB
  have fin2 : Hid (NIn w p (((mk (mk wr.drew)).setCell ⟨p, 1, none⟩ (.slice (some ⟨(mk wr.drew).heap.size, 0, none⟩) G.E G.E)).setCell ⟨p, 2, none⟩ (.slice (some ⟨wr.heap.size, 0, none⟩) G.E G.E)) _ ((P01 G G.n).layE G.E)) := hN.drew.layft' fA fB
  have HTL : Hid (∀ (a : Act) (w' : World) (M : Fam), FN (.slice a0 G.n k0) p a → a.tmps.getD 6 undef = .int .i64 (G.E : Int) → NIn w p w' M ((P01 G G.n).layE G.E) → Code.wp Try.prog tail (bodyPost Try.prog Try.f26 fun e w' => ∃ p, e = .returned (.pointer (some ⟨p, 0, none⟩)) ∧ Z p w') a w') := hT
  have hni : (G.n : Int) < (G.n : Int) + 1 := by omega
  clear hT hN b0 xp l0 e1 hfr fA fB fC hsC c1 c2 q1 q2 hi3 hz30 hz31 hz32
  generalize M.val 1 = m1 at *
  generalize M.val 2 = m2 at *
  generalize M.cap 0 = kk at *
  simp only [tl, rt, Try.f26, Option.getD]
  go_wp2
  go_region
  all_goals go_wp2
  all_goals first | exact HTL.out _ _ _ ⟨by kernel_rfl, by kernel_rfl, by kernel_rfl, by kernel_rfl⟩ (by kernel_rfl) fin1.out | exact HTL.out _ _ _ ⟨by kernel_rfl, by kernel_rfl, by kernel_rfl, by kernel_rfl⟩ (by kernel_rfl) fin2.out | exact HTL.out _ _ _ ⟨by kernel_rfl, by kernel_rfl, by kernel_rfl, by kernel_rfl⟩ (by kernel_rfl) fin3.out

set_option maxRecDepth 40000 in
set_option maxHeartbeats 8000000 in
/-- Regions 9 and 10. -/
theorem np_4 (w : World) (G : GR) (a0 : Option Addr) (k0 p : Nat) (ok : G.Ok) (wr : World) (M : Fam) (hN : NIn w p wr M ((P01 G G.n).layE G.E)) (y : Nat → Value) (tail : Code) (Z : Nat → World → Prop)
    (hT : ∀ (a : Act) (w' : World) (M : Fam), FN (.slice a0 G.n k0) p a → a.tmps.getD 7 undef = .int .i64 0 → NIn w p w' M (PN0 G) → Code.wp Try.prog tail (bodyPost Try.prog Try.f26 fun e w' => ∃ p, e = .returned (.pointer (some ⟨p, 0, none⟩)) ∧ Z p w') a w') :
    Code.wp Try.prog (rt 2 (tl 5 (Try.f26.body.getD .skip)) tail) (bodyPost Try.prog Try.f26 fun e w' => ∃ p, e = .returned (.pointer (some ⟨p, 0, none⟩)) ∧ Z p w') { tmps := #[.slice a0 G.n k0, y 1, y 2, .pointer (some ⟨p, 0, none⟩), y 4, y 5, .int .i64 (G.E : Int), y 7, y 8, y 9, y 10, y 11, y 12, y 13, y 14, y 15, y 16, y 17, y 18, y 19, y 20, y 21, y 22, y 23, y 24, y 25, y 26, y 27, y 28, y 29, y 30, y 31, y 32, y 33, y 34, y 35, y 36, y 37, y 38, y 39, y 40, y 41, y 42, y 43, y 44, y 45, y 46, y 47, y 48, y 49, y 50, y 51, y 52, y 53, y 54, y 55, y 56, y 57, y 58, y 59, y 60, y 61, y 62, y 63, y 64, y 65, y 66, y 67, y 68, y 69, y 70, y 71, y 72, y 73, y 74, y 75, y 76, y 77, y 78, y 79, y 80, y 81, y 82, y 83, y 84, y 85, y 86, y 87, y 88, y 89, y 90, y 91, y 92, y 93, y 94, y 95, y 96, y 97, y 98, y 99, y 100, y 101, y 102, y 103, y 104, y 105, y 106, y 107, y 108, y 109, y 110, y 111, y 112, y 113, y 114, y 115, y 116, y 117, y 118, y 119, y 120, y 121, y 122, y 123, y 124, y 125, y 126, y 127, y 128, y 129, y 130, y 131, y 132, y 133, y 134, y 135, y 136, y 137, y 138, y 139, y 140, y 141, y 142, y 143, y 144, y 145, y 146, y 147, y 148, y 149, y 150, y 151, y 152, y 153], defers := [] } wr := by
  obtain ⟨i57, hi57, hz570, hz571, hz572⟩ := info_parts Try.info57
  have hn := ok.n
  have hE := ok.E
  have c3 := pcell hN.rep hN.b11 hN.pm.p (show 3 < 12 by omega) (hN.pm.hd 3 (by omega))
  have q3 := hN.rep.frozen hN.b11 3
  have sp := hN.rep.lt hN.b11
  obtain ⟨mk, hmk0, hfr⟩ := make_room (P := Try.prog) 50 57 i57 _ 7 72 Try.underlying50 hi57 hz570 hz571 hz572 (G.n + 2 * G.E) (fun _ => undef) (by omega) (by omega)
  have hmk : ∀ W, Sem.run Try.prog (Instr.makeSlice 50 (.int .i64 0) (.int .i64 ((G.n : Int) + 2 * (G.E : Int)))) W = .ok (.slice (some ⟨W.heap.size, 0, none⟩) 0 (G.n + 2 * G.E)) (mk W) := by
    intro W
    have := hmk0 W
    have e : ((G.n + 2 * G.E : Nat) : Int) = (G.n : Int) + 2 * (G.E : Int) := by omega
    rw [e] at this
    exact this
  have fA := hfr wr
  have d3 : (mk wr).cell? ⟨p, 3, none⟩ = some (M.val 3) := (fA.cell_old sp).trans c3
  have u3 : (mk wr).frozen? ⟨p, 3, none⟩ = false := (fA.frozen_old sp).trans q3
  have hN2 := hN.lays rfl fA
  have hcall := newComp_calls _ _ _ p hN2.rep hN2.pm hN2.b11 (fun h => absurd h (Nat.lt_irrefl _)) (by show 0 < 1000000; omega)
  have HC : Hid (Calls Try.prog 30 #[.pointer (some ⟨p, 0, none⟩)] ((mk wr).setCell ⟨p, 3, none⟩ (.slice (some ⟨wr.heap.size, 0, none⟩) 0 (G.n + 2 * G.E))) fun e w' => e = .returned (.int .i64 0) ∧ ∃ M', NIn w p w' M' (PN0 G)) := by
    refine hcall.mono ?_
    rintro e w' ⟨rfl, ho⟩
    exact ⟨rfl, hN2.call ho⟩
  have HTL : Hid (∀ (a : Act) (w' : World) (M : Fam), FN (.slice a0 G.n k0) p a → a.tmps.getD 7 undef = .int .i64 0 → NIn w p w' M (PN0 G) → Code.wp Try.prog tail (bodyPost Try.prog Try.f26 fun e w' => ∃ p, e = .returned (.pointer (some ⟨p, 0, none⟩)) ∧ Z p w') a w') := hT
  clear hT hN hN2 hcall hfr fA c3 q3 hmk0 hi57 hz570 hz571 hz572
  generalize M.val 3 = m3 at *
  simp only [tl, rt, Try.f26, Option.getD]
  go_wp2_with (go_at_call 30; refine HC.out.mono ?_; rintro e w' ⟨rfl, M', hN⟩; have HN : Hid (NIn w p w' M' (PN0 G)) := hN; clear hN)
  exact HTL.out _ _ _ ⟨by kernel_rfl, by kernel_rfl, by kernel_rfl, by kernel_rfl⟩ (by kernel_rfl) HN.out
end Go.Proofs.Qxb6602148a
