/-
  The second law: up to its loops.
-/
import Derived.Test.Qxb6602148aLf
import Derived.Test.Qxb6602148aBe
attribute [local go_sem] Go.Proofs.Qxb6602148a.yTo Go.Proofs.Qxb6602148a.yUpon
namespace Go.Proofs.Qxb6602148a
open Go.RowKit
set_option linter.unusedVariables false
set_option linter.unusedSimpArgs false

theorem Grew.keep {w w1 w2 : World} {M D : Fam} (h : Grew Fam.nil w M w1) (h' : Grew Fam.nil w1 D w2) : Grew Fam.nil w M w2 :=
  ⟨h'.os.trans h.os, h'.tape.trans h.tape, h'.output.trans h.output, Nat.le_trans h.size h'.size, fun k hk hn => (h'.block k (Nat.lt_of_lt_of_le hk h.size) (fun i e => by cases e)).trans (h.block k hk hn), h.own⟩
theorem PIn.kept {w1 w2 : World} {M : Fam} {P : PS} {p : Nat} (h : PIn w1 M P p) {D : Fam} (hg : Grew Fam.nil w1 D w2) : PIn w2 M P p :=
  ⟨h.rep.kept (fun i g hb => hg.block g (h.rep.lt hb) (fun i e => by cases e)), h.pm, h.b11, h.small, h.on, h.mn⟩
theorem box_kept {w1 w2 : World} {D : Fam} {g : Nat} {o : Obj} (h : w1.heap[g]? = some o) (hg : Grew Fam.nil w1 D w2) : w2.heap[g]? = some o := by
  rw [hg.block g (Array.getElem?_eq_some_iff.1 h).1 (fun i e => by cases e)]; exact h

theorem take_slices {w : World} {P : PS} {p : Nat} (h : Calls Try.prog 13 #[.pointer (some ⟨p, 0, none⟩)] w fun e w' => ∃ V, e = .returned (.agg #[V.val 0, V.val 1, V.val 2, V.val 3, V.val 4, V.val 5, V.val 6]) ∧ VOut w P V w') : Calls Try.prog 13 #[.pointer (some ⟨p, 0, none⟩)] w fun e w' => ∃ V a0 n0 k0 a1 n1 k1 a2 n2 k2 a3 n3 k3 a4 n4 k4 a5 n5 k5 a6 n6 k6, e = .returned (.agg #[.slice a0 n0 k0, .slice a1 n1 k1, .slice a2 n2 k2, .slice a3 n3 k3, .slice a4 n4 k4, .slice a5 n5 k5, .slice a6 n6 k6]) ∧ (#[.slice a0 n0 k0, .slice a1 n1 k1, .slice a2 n2 k2, .slice a3 n3 k3, .slice a4 n4 k4, .slice a5 n5 k5, .slice a6 n6 k6] : Array Value) = #[V.val 0, V.val 1, V.val 2, V.val 3, V.val 4, V.val 5, V.val 6] ∧ VOut w P V w' := by
  refine h.mono ?_
  rintro e w' ⟨V, rfl, hV⟩
  exact ⟨V, _, _, _, _, _, _, _, _, _, _, _, _, _, _, _, _, _, _, _, _, _, rfl, rfl, hV⟩

/-- Component c of the first view is in use. -/
structure S10 (w w5 : World) (Nf : Fam) (G : GR) (a' : Option Addr) (k' p : Nat) (M : Fam) (P : PS) (V : Fam) (gB c : Nat) : Prop where
  gm : GM w5 Nf G a' k'
  ok : G.Ok
  pin : PIn w5 M P p
  rv : Rep KV w5 V
  vm : VM V P
  box : w5.heap[gB]? = some (.cells #[V.val 0, V.val 1, V.val 2, V.val 3, V.val 4, V.val 5, V.val 6] 35)
  gr : Grew Fam.nil w M w5
  vn : ∀ i g, V.b i = some g → ∀ j, M.b j ≠ some g
  bn : ∀ j, M.b j ≠ some gB
  meet : ∀ R nc cls, MOk G R nc cls → Meet (G.md R nc cls) P
  calm : Calm P
  c1 : c < P.nC
  c2 : P.mn c ≠ 0
  nS : P.nS ≤ 12288
  nC : P.nC ≤ 4097
structure F4b (a' : Option Addr) (n k' p gB c : Nat) (a : Act) : Prop where
  sz : a.tmps.size = 180
  df : a.defers = []
  s0 : a.tmps.getD 0 undef = .slice a' n k'
  s1 : a.tmps.getD 1 undef = .int .i64 (c : Int)
  s5 : a.tmps.getD 5 undef = .pointer (some ⟨p, 0, none⟩)
  s6 : a.tmps.getD 6 undef = .pointer (some ⟨gB, 0, none⟩)
set_option maxRecDepth 40000 in
theorem l4s0 {a : Act} {u0 u1 : Value} (hs : a.tmps.size = 180) (hd : a.defers = []) (h0 : a.tmps.getD 0 undef = u0) (h1 : a.tmps.getD 1 undef = u1) : ∃ y : Nat → Value, a = { tmps := #[u0, u1, y 2, y 3, y 4, y 5, y 6, y 7, y 8, y 9, y 10, y 11, y 12, y 13, y 14, y 15, y 16, y 17, y 18, y 19, y 20, y 21, y 22, y 23, y 24, y 25, y 26, y 27, y 28, y 29, y 30, y 31, y 32, y 33, y 34, y 35, y 36, y 37, y 38, y 39, y 40, y 41, y 42, y 43, y 44, y 45, y 46, y 47, y 48, y 49, y 50, y 51, y 52, y 53, y 54, y 55, y 56, y 57, y 58, y 59, y 60, y 61, y 62, y 63, y 64, y 65, y 66, y 67, y 68, y 69, y 70, y 71, y 72, y 73, y 74, y 75, y 76, y 77, y 78, y 79, y 80, y 81, y 82, y 83, y 84, y 85, y 86, y 87, y 88, y 89, y 90, y 91, y 92, y 93, y 94, y 95, y 96, y 97, y 98, y 99, y 100, y 101, y 102, y 103, y 104, y 105, y 106, y 107, y 108, y 109, y 110, y 111, y 112, y 113, y 114, y 115, y 116, y 117, y 118, y 119, y 120, y 121, y 122, y 123, y 124, y 125, y 126, y 127, y 128, y 129, y 130, y 131, y 132, y 133, y 134, y 135, y 136, y 137, y 138, y 139, y 140, y 141, y 142, y 143, y 144, y 145, y 146, y 147, y 148, y 149, y 150, y 151, y 152, y 153, y 154, y 155, y 156, y 157, y 158, y 159, y 160, y 161, y 162, y 163, y 164, y 165, y 166, y 167, y 168, y 169, y 170, y 171, y 172, y 173, y 174, y 175, y 176, y 177, y 178, y 179], defers := [] } := by
  obtain ⟨tmps, defers⟩ := a
  have yd : defers = [] := hd
  subst yd
  obtain ⟨y, hy, hi⟩ := arr_180 tmps hs
  have e0 := (hi 0).trans h0
  have e1 := (hi 1).trans h1
  rw [e0, e1] at hy
  exact ⟨y, congrArg (fun t => (⟨t, []⟩ : Act)) hy⟩
set_option maxRecDepth 40000 in
theorem l4s6 {a : Act} {u0 u1 u5 u6 : Value} (hs : a.tmps.size = 180) (hd : a.defers = []) (h0 : a.tmps.getD 0 undef = u0) (h1 : a.tmps.getD 1 undef = u1) (h5 : a.tmps.getD 5 undef = u5) (h6 : a.tmps.getD 6 undef = u6) : ∃ y : Nat → Value, a = { tmps := #[u0, u1, y 2, y 3, y 4, u5, u6, y 7, y 8, y 9, y 10, y 11, y 12, y 13, y 14, y 15, y 16, y 17, y 18, y 19, y 20, y 21, y 22, y 23, y 24, y 25, y 26, y 27, y 28, y 29, y 30, y 31, y 32, y 33, y 34, y 35, y 36, y 37, y 38, y 39, y 40, y 41, y 42, y 43, y 44, y 45, y 46, y 47, y 48, y 49, y 50, y 51, y 52, y 53, y 54, y 55, y 56, y 57, y 58, y 59, y 60, y 61, y 62, y 63, y 64, y 65, y 66, y 67, y 68, y 69, y 70, y 71, y 72, y 73, y 74, y 75, y 76, y 77, y 78, y 79, y 80, y 81, y 82, y 83, y 84, y 85, y 86, y 87, y 88, y 89, y 90, y 91, y 92, y 93, y 94, y 95, y 96, y 97, y 98, y 99, y 100, y 101, y 102, y 103, y 104, y 105, y 106, y 107, y 108, y 109, y 110, y 111, y 112, y 113, y 114, y 115, y 116, y 117, y 118, y 119, y 120, y 121, y 122, y 123, y 124, y 125, y 126, y 127, y 128, y 129, y 130, y 131, y 132, y 133, y 134, y 135, y 136, y 137, y 138, y 139, y 140, y 141, y 142, y 143, y 144, y 145, y 146, y 147, y 148, y 149, y 150, y 151, y 152, y 153, y 154, y 155, y 156, y 157, y 158, y 159, y 160, y 161, y 162, y 163, y 164, y 165, y 166, y 167, y 168, y 169, y 170, y 171, y 172, y 173, y 174, y 175, y 176, y 177, y 178, y 179], defers := [] } := by
  obtain ⟨tmps, defers⟩ := a
  have yd : defers = [] := hd
  subst yd
  obtain ⟨y, hy, hi⟩ := arr_180 tmps hs
  have e0 := (hi 0).trans h0
  have e1 := (hi 1).trans h1
  have e5 := (hi 5).trans h5
  have e6 := (hi 6).trans h6
  rw [e0, e1, e5, e6] at hy
  exact ⟨y, congrArg (fun t => (⟨t, []⟩ : Act)) hy⟩
set_option maxRecDepth 40000 in
theorem l4s7 {a : Act} {u1 u5 u6 u7 : Value} (hs : a.tmps.size = 180) (hd : a.defers = []) (h1 : a.tmps.getD 1 undef = u1) (h5 : a.tmps.getD 5 undef = u5) (h6 : a.tmps.getD 6 undef = u6) (h7 : a.tmps.getD 7 undef = u7) : ∃ y : Nat → Value, a = { tmps := #[y 0, u1, y 2, y 3, y 4, u5, u6, u7, y 8, y 9, y 10, y 11, y 12, y 13, y 14, y 15, y 16, y 17, y 18, y 19, y 20, y 21, y 22, y 23, y 24, y 25, y 26, y 27, y 28, y 29, y 30, y 31, y 32, y 33, y 34, y 35, y 36, y 37, y 38, y 39, y 40, y 41, y 42, y 43, y 44, y 45, y 46, y 47, y 48, y 49, y 50, y 51, y 52, y 53, y 54, y 55, y 56, y 57, y 58, y 59, y 60, y 61, y 62, y 63, y 64, y 65, y 66, y 67, y 68, y 69, y 70, y 71, y 72, y 73, y 74, y 75, y 76, y 77, y 78, y 79, y 80, y 81, y 82, y 83, y 84, y 85, y 86, y 87, y 88, y 89, y 90, y 91, y 92, y 93, y 94, y 95, y 96, y 97, y 98, y 99, y 100, y 101, y 102, y 103, y 104, y 105, y 106, y 107, y 108, y 109, y 110, y 111, y 112, y 113, y 114, y 115, y 116, y 117, y 118, y 119, y 120, y 121, y 122, y 123, y 124, y 125, y 126, y 127, y 128, y 129, y 130, y 131, y 132, y 133, y 134, y 135, y 136, y 137, y 138, y 139, y 140, y 141, y 142, y 143, y 144, y 145, y 146, y 147, y 148, y 149, y 150, y 151, y 152, y 153, y 154, y 155, y 156, y 157, y 158, y 159, y 160, y 161, y 162, y 163, y 164, y 165, y 166, y 167, y 168, y 169, y 170, y 171, y 172, y 173, y 174, y 175, y 176, y 177, y 178, y 179], defers := [] } := by
  obtain ⟨tmps, defers⟩ := a
  have yd : defers = [] := hd
  subst yd
  obtain ⟨y, hy, hi⟩ := arr_180 tmps hs
  have e1 := (hi 1).trans h1
  have e5 := (hi 5).trans h5
  have e6 := (hi 6).trans h6
  have e7 := (hi 7).trans h7
  rw [e1, e5, e6, e7] at hy
  exact ⟨y, congrArg (fun t => (⟨t, []⟩ : Act)) hy⟩

set_option maxRecDepth 40000 in
set_option maxHeartbeats 8000000 in
/-- Regions 8, 9 and 10. -/
theorem l2_g1 (w w1 : World) (Nf : Fam) (G : GR) (a' : Option Addr) (k' : Nat) (hG : GM w1 Nf G a' k') (ok : G.Ok) (hw : Grew Fam.nil w Fam.nil w1) (ci : Int) (hci : ci ≤ 9223372036854775807 ∧ -9223372036854775808 ≤ ci) (a : Act) (hs : a.tmps.size = 180) (hd : a.defers = []) (h0 : a.tmps.getD 0 undef = .slice a' G.n k') (h1 : a.tmps.getD 1 undef = .int .i64 ci)
    (hC : ∀ (a : Act) (w5 : World) (p gB c : Nat) (M : Fam) (P : PS) (V : Fam), F4b a' G.n k' p gB c a → S10 w w5 Nf G a' k' p M P V gB c → Code.wp Try.prog (tl 8 (Try.f4.body.getD .skip)) (bodyPost Try.prog Try.f4 fun e w' => e = .returned (.bool true) ∧ Below w.heap.size w w') a w5) :
    Code.wp Try.prog (tl 5 (Try.f4.body.getD .skip)) (bodyPost Try.prog Try.f4 fun e w' => e = .returned (.bool true) ∧ Below w.heap.size w w') a w1 := by
  obtain ⟨y, rfl⟩ := l4s0 hs hd h0 h1
  have HN : Hid (Calls Try.prog 11 #[.slice a' G.n k'] w1 fun e w' => ∃ p, e = .returned (.pointer (some ⟨p, 0, none⟩)) ∧ NDone w1 G p w') := zzNew_calls w1 Nf G a' k' hG ok
  have HC : Hid (∀ (a : Act) (w5 : World) (p gB c : Nat) (M : Fam) (P : PS) (V : Fam), F4b a' G.n k' p gB c a → S10 w w5 Nf G a' k' p M P V gB c → Code.wp Try.prog (tl 8 (Try.f4.body.getD .skip)) (bodyPost Try.prog Try.f4 fun e w' => e = .returned (.bool true) ∧ Below w.heap.size w w') a w5) := hC
  have HG : Hid (GM w1 Nf G a' k') := hG
  have HO : Hid G.Ok := ok
  have HW : Hid (Grew Fam.nil w Fam.nil w1) := hw
  clear hs hd h0 h1 hC hG ok hw
  show Code.wp Try.prog (Code.seq _ (Code.seq _ (Code.seq (Code.seq _ (Code.cond (.tmp 33) (Code.seq _ _) Code.skip)) (tl 8 (Try.f4.body.getD .skip))))) _ _ w1
  refine wp_seq_k (fun K1 hK => ?_)
  have HK1 : Hid (∀ (a : Act) (w : World), _ → K1 a w) := hK
  clear hK
  go_wp2_with (go_at_call 11; refine HN.out.mono ?_; rintro e w2 ⟨p, rfl, hP⟩; have HP : Hid (NDone w1 G p w2) := hP; clear hP)
  refine HK1.out _ _ ?_
  clear HK1 K1 HN
  obtain ⟨R0, nc0, cls0, hm0⟩ := HO.out.mok
  obtain ⟨M, P, P0, L, hpin, _, hNP, hDF, gr, nS, nC, hDE⟩ := HP.out.pin HO.out hm0
  have hmeet : ∀ R nc cls, MOk G R nc cls → Meet (G.md R nc cls) P := fun R nc cls hm => (hNP.meet HO.out hm hDE).1
  have HT : Hid (Calls Try.prog 13 #[.pointer (some ⟨p, 0, none⟩)] w2 fun e w' => ∃ V a0 n0 k0 a1 n1 k1 a2 n2 k2 a3 n3 k3 a4 n4 k4 a5 n5 k5 a6 n6 k6, e = .returned (.agg #[.slice a0 n0 k0, .slice a1 n1 k1, .slice a2 n2 k2, .slice a3 n3 k3, .slice a4 n4 k4, .slice a5 n5 k5, .slice a6 n6 k6]) ∧ (#[.slice a0 n0 k0, .slice a1 n1 k1, .slice a2 n2 k2, .slice a3 n3 k3, .slice a4 n4 k4, .slice a5 n5 k5, .slice a6 n6 k6] : Array Value) = #[V.val 0, V.val 1, V.val 2, V.val 3, V.val 4, V.val 5, V.val 6] ∧ VOut w2 P V w') := take_slices (take_calls w2 M P p hpin)
  have H2 : Hid (PIn w2 M P p ∧ (∀ R nc cls, MOk G R nc cls → Meet (G.md R nc cls) P) ∧ Calm P ∧ Grew Fam.nil w M w2 ∧ GM w2 Nf G a' k') := ⟨hpin, hmeet, hNP.calm HO.out hDF, HW.out.trans gr, HG.out.kept gr⟩
  clear HP hm0 hpin hNP hDF gr hDE hmeet HG HW
  refine wp_seq_k (fun K1 hK => ?_)
  have HK1 : Hid (∀ (a : Act) (w : World), _ → K1 a w) := hK
  clear hK
  go_wp2_with (go_at_call 13; refine HT.out.mono ?_; rintro e w3 ⟨V, a0, n0, k0, a1, n1, k1, a2, n2, k2, a3, n3, k3, a4, n4, k4, a5, n5, k5, a6, n6, k6, rfl, hq, hV⟩; have HV : Hid (VOut w2 P V w3) := hV; have HQ : Hid ((#[.slice a0 n0 k0, .slice a1 n1 k1, .slice a2 n2 k2, .slice a3 n3 k3, .slice a4 n4 k4, .slice a5 n5 k5, .slice a6 n6 k6] : Array Value) = #[V.val 0, V.val 1, V.val 2, V.val 3, V.val 4, V.val 5, V.val 6]) := hq; clear hV hq)
  refine HK1.out _ _ ?_
  clear HK1 K1 HT
  rw [HQ.out]
  have b4 : (w3.alloc (.cells #[V.val 0, V.val 1, V.val 2, V.val 3, V.val 4, V.val 5, V.val 6] 35)).heap[w3.heap.size]? = some (.cells #[V.val 0, V.val 1, V.val 2, V.val 3, V.val 4, V.val 5, V.val 6] 35) := heap_alloc_new w3 _
  have g34 : Grew Fam.nil w3 Fam.nil (w3.alloc (.cells #[V.val 0, V.val 1, V.val 2, V.val 3, V.val 4, V.val 5, V.val 6] 35)) := (Grew.refl Fam.nil w3).alloc _
  have sz3 : w2.heap.size ≤ w3.heap.size := HV.out.2.1.size
  generalize hgb : w3.heap.size = gB at *
  generalize w3.alloc (.cells #[V.val 0, V.val 1, V.val 2, V.val 3, V.val 4, V.val 5, V.val 6] 35) = w4 at *
  obtain ⟨rv4, vm4⟩ := HV.out.kept g34
  have g24 : Grew Fam.nil w2 Fam.nil w4 := HV.out.2.1.to_nil.trans g34
  have d0 : w4.cell? ⟨gB, 0, none⟩ = some (V.val 0) := by rw [cell_of_row w4 gB 0 _ _ _ b4]; rfl
  have d1 : w4.cell? ⟨gB, 1, none⟩ = some (V.val 1) := by rw [cell_of_row w4 gB 1 _ _ _ b4]; rfl
  have d2 : w4.cell? ⟨gB, 2, none⟩ = some (V.val 2) := by rw [cell_of_row w4 gB 2 _ _ _ b4]; rfl
  have d3 : w4.cell? ⟨gB, 3, none⟩ = some (V.val 3) := by rw [cell_of_row w4 gB 3 _ _ _ b4]; rfl
  have d4 : w4.cell? ⟨gB, 4, none⟩ = some (V.val 4) := by rw [cell_of_row w4 gB 4 _ _ _ b4]; rfl
  have d5 : w4.cell? ⟨gB, 5, none⟩ = some (V.val 5) := by rw [cell_of_row w4 gB 5 _ _ _ b4]; rfl
  have d6 : w4.cell? ⟨gB, 6, none⟩ = some (V.val 6) := by rw [cell_of_row w4 gB 6 _ _ _ b4]; rfl
  have HU : Hid (Calls Try.prog 15 #[.agg #[V.val 0, V.val 1, V.val 2, V.val 3, V.val 4, V.val 5, V.val 6], .int .i64 ci] w4 (RetU w4 P ci)) := inUse_calls w4 V P ci rv4 vm4 (by omega) hci
  have FIN : Hid (∀ w5, Grew Fam.nil w4 Fam.nil w5 → Below w.heap.size w w5 ∧ (InU P ci → ∃ c : Nat, ci = (c : Int) ∧ S10 w w5 Nf G a' k' p M P V gB c)) := by
    intro w5 hg
    obtain ⟨hpin, hmeet, hcalm, hgr, hgm⟩ := H2.out
    have g25 := g24.trans hg
    refine ⟨(hgr.keep g25).below, fun hU => ?_⟩
    refine ⟨ci.toNat, by have := hU.1; omega, hgm.kept g25, HO.out, hpin.kept g25, rv4.kept (fun i g hb => hg.block g (rv4.lt hb) (fun i e => by cases e)), vm4, box_kept b4 hg, hgr.keep g25, fun i g hb j hj => ?_, fun j hj => ?_, hmeet, hcalm, hU.2.1, hU.2.2, nS, nC⟩
    · rcases HV.out.2.1.own i g hb with ⟨q, hq⟩ | hge
      · cases hq
      · have := hpin.rep.lt hj; omega
    · have := hpin.rep.lt hj; omega
  clear H2 HV b4 g34 sz3 rv4 vm4 g24 hgb HO nS nC
  refine wp_seq_k (fun K1 hK => ?_)
  have HK1 : Hid (∀ (a : Act) (w : World), _ → K1 a w) := hK
  clear hK
  refine wp_seq_k (fun K2 hK => ?_)
  have HK2 : Hid (∀ (a : Act) (w : World), _ → K2 a w) := hK
  clear hK
  go_wp2_with (go_at_call 15; refine HU.out.mono ?_; rintro e w5 ⟨b, rfl, hb, hg⟩; have HB : Hid (b = true ↔ InU P ci) := hb; have HG5 : Hid (Grew Fam.nil w4 Fam.nil w5) := hg; clear hb hg)
  cases b with
  | false =>
    refine HK2.out _ _ (wp_cond_true (by kernel_rfl) ?_)
    have fin : Hid (Below w.heap.size w w5) := (FIN.out w5 HG5.out).1
    clear HK1 HK2 K2 HU FIN HC HB HG5
    go_wp2
    go_ret
    exact ⟨rfl, fin.out⟩
  | true =>
    obtain ⟨c, rfl, hS⟩ := (FIN.out w5 HG5.out).2 (HB.out.1 rfl)
    refine HK2.out _ _ (wp_cond_false (by kernel_rfl) (wp_skip ?_))
    refine HK1.out _ _ ?_
    exact HC.out _ w5 p gB c M P V ⟨by kernel_rfl, by kernel_rfl, by kernel_rfl, by kernel_rfl, by kernel_rfl, by kernel_rfl⟩ hS

/-- ... and the model lies beside it. -/
structure S13 (w w8 : World) (G : GR) (p : Nat) (M : Fam) (P : PS) (V : Fam) (gB c : Nat) (R : Nat → Nat → Bool) (nc : Nat) (cls : Nat → Nat) (g0 g1 g2 g3 gM : Nat) : Prop where
  ok : G.Ok
  pin : PIn w8 M P p
  rv : Rep KV w8 V
  vm : VM V P
  box : w8.heap[gB]? = some (.cells #[V.val 0, V.val 1, V.val 2, V.val 3, V.val 4, V.val 5, V.val 6] 35)
  gr : Grew Fam.nil w M w8
  vn : ∀ i g, V.b i = some g → ∀ j, M.b j ≠ some g
  bn : ∀ j, M.b j ≠ some gB
  meet : Meet (G.md R nc cls) P
  calm : Calm P
  c1 : c < P.nC
  c2 : P.mn c ≠ 0
  nS : P.nS ≤ 12288
  nC : P.nC ≤ 4097
  mcl : MCl G R nc cls g0 g1 g2 g3 w8
  mn : ∀ j, M.b j ≠ some g0 ∧ M.b j ≠ some g1 ∧ M.b j ≠ some g2 ∧ M.b j ≠ some g3 ∧ M.b j ≠ some gM
  bm : w8.heap[gM]? = some (.cells #[.int .i64 (G.n : Int), .slice (some ⟨g0, 0, none⟩) G.E G.E, .slice (some ⟨g1, 0, none⟩) G.E G.E, .slice (some ⟨g2, 0, none⟩) G.E G.E, .slice (some ⟨g3, 0, none⟩) G.E G.E, .int .i64 (nc : Int)] 29)
structure F4c (p gB gM c : Nat) (a : Act) : Prop where
  sz : a.tmps.size = 180
  df : a.defers = []
  s1 : a.tmps.getD 1 undef = .int .i64 (c : Int)
  s5 : a.tmps.getD 5 undef = .pointer (some ⟨p, 0, none⟩)
  s6 : a.tmps.getD 6 undef = .pointer (some ⟨gB, 0, none⟩)
  s7 : a.tmps.getD 7 undef = .pointer (some ⟨gM, 0, none⟩)

set_option maxRecDepth 40000 in
set_option maxHeartbeats 8000000 in
/-- Regions 12 and 13. -/
theorem l2_g2 (w w5 : World) (Nf : Fam) (G : GR) (a' : Option Addr) (k' p : Nat) (M : Fam) (P : PS) (V : Fam) (gB c : Nat) (hS : S10 w w5 Nf G a' k' p M P V gB c) (a : Act) (hf : F4b a' G.n k' p gB c a)
    (hC : ∀ (a : Act) (w8 : World) (R : Nat → Nat → Bool) (nc : Nat) (cls : Nat → Nat) (g0 g1 g2 g3 gM : Nat), F4c p gB gM c a → S13 w w8 G p M P V gB c R nc cls g0 g1 g2 g3 gM → Code.wp Try.prog (tl 10 (Try.f4.body.getD .skip)) (bodyPost Try.prog Try.f4 fun e w' => e = .returned (.bool true) ∧ Below w.heap.size w w') a w8) :
    Code.wp Try.prog (tl 8 (Try.f4.body.getD .skip)) (bodyPost Try.prog Try.f4 fun e w' => e = .returned (.bool true) ∧ Below w.heap.size w w') a w5 := by
  obtain ⟨y, rfl⟩ := l4s6 hf.sz hf.df hf.s0 hf.s1 hf.s5 hf.s6
  have HB : Hid (Calls Try.prog 10 #[.slice a' G.n k'] w5 (MRet w5 G)) := build_calls w5 Nf G a' k' hS.gm hS.ok
  have HS : Hid (S10 w w5 Nf G a' k' p M P V gB c) := hS
  have HC : Hid (∀ (a : Act) (w8 : World) (R : Nat → Nat → Bool) (nc : Nat) (cls : Nat → Nat) (g0 g1 g2 g3 gM : Nat), F4c p gB gM c a → S13 w w8 G p M P V gB c R nc cls g0 g1 g2 g3 gM → Code.wp Try.prog (tl 10 (Try.f4.body.getD .skip)) (bodyPost Try.prog Try.f4 fun e w' => e = .returned (.bool true) ∧ Below w.heap.size w w') a w8) := hC
  clear hf hC hS
  show Code.wp Try.prog (Code.seq _ (Code.seq (Code.seq _ (Code.cond (.tmp 39) _ Code.skip)) (tl 10 (Try.f4.body.getD .skip)))) _ _ w5
  refine wp_seq_k (fun K1 hK => ?_)
  have HK1 : Hid (∀ (a : Act) (w : World), _ → K1 a w) := hK
  clear hK
  go_wp2_with (go_at_call 10; refine HB.out.mono ?_; rintro e w6 ⟨R, nc, cls, g0, g1, g2, g3, rfl, hM⟩; have HM : Hid (MRt w5 G R nc cls g0 g1 g2 g3 w6) := hM; clear hM)
  refine HK1.out _ _ ?_
  clear HK1 K1 HB
  have b7 : (w6.alloc (.cells #[.int .i64 (G.n : Int), .slice (some ⟨g0, 0, none⟩) G.E G.E, .slice (some ⟨g1, 0, none⟩) G.E G.E, .slice (some ⟨g2, 0, none⟩) G.E G.E, .slice (some ⟨g3, 0, none⟩) G.E G.E, .int .i64 (nc : Int)] 29)).heap[w6.heap.size]? = some (.cells #[.int .i64 (G.n : Int), .slice (some ⟨g0, 0, none⟩) G.E G.E, .slice (some ⟨g1, 0, none⟩) G.E G.E, .slice (some ⟨g2, 0, none⟩) G.E G.E, .slice (some ⟨g3, 0, none⟩) G.E G.E, .int .i64 (nc : Int)] 29) := heap_alloc_new w6 _
  have g67 : Grew Fam.nil w6 Fam.nil (w6.alloc (.cells #[.int .i64 (G.n : Int), .slice (some ⟨g0, 0, none⟩) G.E G.E, .slice (some ⟨g1, 0, none⟩) G.E G.E, .slice (some ⟨g2, 0, none⟩) G.E G.E, .slice (some ⟨g3, 0, none⟩) G.E G.E, .int .i64 (nc : Int)] 29)) := (Grew.refl Fam.nil w6).alloc _
  obtain ⟨D6, hD6⟩ := HM.out.grew
  have sz6 : w5.heap.size ≤ w6.heap.size := hD6.size
  generalize hgm : w6.heap.size = gM at *
  generalize w6.alloc (.cells #[.int .i64 (G.n : Int), .slice (some ⟨g0, 0, none⟩) G.E G.E, .slice (some ⟨g1, 0, none⟩) G.E G.E, .slice (some ⟨g2, 0, none⟩) G.E G.E, .slice (some ⟨g3, 0, none⟩) G.E G.E, .int .i64 (nc : Int)] 29) = w7 at *
  have g57 : Grew Fam.nil w5 Fam.nil w7 := hD6.to_nil.trans g67
  have m7 := HM.out.kept g67
  have rv7 : Rep KV w7 V := HS.out.rv.kept (fun i g hb => g57.block g (HS.out.rv.lt hb) (fun i e => by cases e))
  have bx7 := box_kept HS.out.box g57
  have c0 : w7.cell? ⟨gM, 0, none⟩ = some (.int .i64 (G.n : Int)) := by rw [cell_of_row w7 gM 0 _ _ _ b7]; rfl
  have c1 : w7.cell? ⟨gM, 1, none⟩ = some (.slice (some ⟨g0, 0, none⟩) G.E G.E) := by rw [cell_of_row w7 gM 1 _ _ _ b7]; rfl
  have c2 : w7.cell? ⟨gM, 2, none⟩ = some (.slice (some ⟨g1, 0, none⟩) G.E G.E) := by rw [cell_of_row w7 gM 2 _ _ _ b7]; rfl
  have c3 : w7.cell? ⟨gM, 3, none⟩ = some (.slice (some ⟨g2, 0, none⟩) G.E G.E) := by rw [cell_of_row w7 gM 3 _ _ _ b7]; rfl
  have c4 : w7.cell? ⟨gM, 4, none⟩ = some (.slice (some ⟨g3, 0, none⟩) G.E G.E) := by rw [cell_of_row w7 gM 4 _ _ _ b7]; rfl
  have c5 : w7.cell? ⟨gM, 5, none⟩ = some (.int .i64 (nc : Int)) := by rw [cell_of_row w7 gM 5 _ _ _ b7]; rfl
  have d0 : w7.cell? ⟨gB, 0, none⟩ = some (V.val 0) := by rw [cell_of_row w7 gB 0 _ _ _ bx7]; rfl
  have d1 : w7.cell? ⟨gB, 1, none⟩ = some (V.val 1) := by rw [cell_of_row w7 gB 1 _ _ _ bx7]; rfl
  have d2 : w7.cell? ⟨gB, 2, none⟩ = some (V.val 2) := by rw [cell_of_row w7 gB 2 _ _ _ bx7]; rfl
  have d3 : w7.cell? ⟨gB, 3, none⟩ = some (V.val 3) := by rw [cell_of_row w7 gB 3 _ _ _ bx7]; rfl
  have d4 : w7.cell? ⟨gB, 4, none⟩ = some (V.val 4) := by rw [cell_of_row w7 gB 4 _ _ _ bx7]; rfl
  have d5 : w7.cell? ⟨gB, 5, none⟩ = some (V.val 5) := by rw [cell_of_row w7 gB 5 _ _ _ bx7]; rfl
  have d6 : w7.cell? ⟨gB, 6, none⟩ = some (V.val 6) := by rw [cell_of_row w7 gB 6 _ _ _ bx7]; rfl
  have hmeet := HS.out.meet R nc cls m7.ok
  have nS := HS.out.nS
  have nC := HS.out.nC
  have HMT : Hid (Calls Try.prog 12 #[.agg #[.int .i64 (G.n : Int), .slice (some ⟨g0, 0, none⟩) G.E G.E, .slice (some ⟨g1, 0, none⟩) G.E G.E, .slice (some ⟨g2, 0, none⟩) G.E G.E, .slice (some ⟨g3, 0, none⟩) G.E G.E, .int .i64 (nc : Int)], .agg #[V.val 0, V.val 1, V.val 2, V.val 3, V.val 4, V.val 5, V.val 6]] w7 fun e w' => e = .returned (.bool true) ∧ S13 w w' G p M P V gB c R nc cls g0 g1 g2 g3 gM) := by
    refine (meets_calls w7 (G.md R nc cls) P (.slice (some ⟨g0, 0, none⟩) G.E G.E) (.slice (some ⟨g1, 0, none⟩) G.E G.E) (.slice (some ⟨g2, 0, none⟩) G.E G.E) (.slice (some ⟨g3, 0, none⟩) G.E G.E) (V.val 0) (V.val 1) (V.val 2) (V.val 3) (V.val 4) (V.val 5) (V.val 6) (mtIn_of HS.out.ok m7.cl rv7 HS.out.vm (by omega) (by omega)) hmeet).mono ?_
    rintro e w8 ⟨rfl, D, hD⟩
    refine ⟨rfl, ?_⟩
    have h78 : Grew Fam.nil w7 Fam.nil w8 := (((Grew.refl Fam.nil w7).alloc _).alloc _).trans hD.to_nil
    have h58 := g57.trans h78
    have m8 := m7.kept h78
    have nw := HM.out.nw
    have lt : ∀ j g, M.b j = some g → g < w5.heap.size := fun j g hj => HS.out.pin.rep.lt hj
    exact ⟨HS.out.ok, HS.out.pin.kept h58, rv7.kept (fun i g hb => h78.block g (rv7.lt hb) (fun i e => by cases e)), HS.out.vm, box_kept bx7 h78, HS.out.gr.keep h58, HS.out.vn, HS.out.bn, hmeet, HS.out.calm, HS.out.c1, HS.out.c2, nS, nC, m8.cl, fun j => ⟨fun e => by have := lt j _ e; omega, fun e => by have := lt j _ e; omega, fun e => by have := lt j _ e; omega, fun e => by have := lt j _ e; omega, fun e => by have := lt j _ e; omega⟩, box_kept b7 h78⟩
  clear HS HM b7 g67 hD6 sz6 hgm g57 m7 rv7 bx7 hmeet nS nC
  refine wp_seq_k (fun K1 hK => ?_)
  have HK1 : Hid (∀ (a : Act) (w : World), _ → K1 a w) := hK
  clear hK
  refine wp_seq_k (fun K2 hK => ?_)
  have HK2 : Hid (∀ (a : Act) (w : World), _ → K2 a w) := hK
  clear hK
  go_wp2_with (go_at_call 12; refine HMT.out.mono ?_; rintro e w8 ⟨rfl, h8⟩; have H8 : Hid (S13 w w8 G p M P V gB c R nc cls g0 g1 g2 g3 gM) := h8; clear h8)
  refine HK2.out _ _ (wp_cond_false (by kernel_rfl) (wp_skip ?_))
  refine HK1.out _ _ ?_
  exact HC.out _ w8 R nc cls g0 g1 g2 g3 gM ⟨by kernel_rfl, by kernel_rfl, by kernel_rfl, by kernel_rfl, by kernel_rfl, by kernel_rfl⟩ H8.out
end Go.Proofs.Qxb6602148a
