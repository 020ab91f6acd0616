/-
  The first law.
-/
import Derived.Test.Qxb6602148aLa
attribute [local go_sem] Go.Proofs.Qxb6602148a.yTo Go.Proofs.Qxb6602148a.yUpon
namespace Go.Proofs.Qxb6602148a
open Go.RowKit
set_option linter.unusedVariables false
set_option linter.unusedSimpArgs false

theorem PIn.drew {w0 : World} {M : Fam} {P : PS} {p : Nat} (h : PIn w0 M P p) : PIn w0.drew M P p := ⟨h.rep.drew, h.pm, h.b11, h.small, h.on, h.mn⟩
theorem Grew.drew2 {w w' : World} {M D : Fam} (h : Grew M w D w') : Grew M w.drew D w' := ⟨h.os, h.tape, h.output, h.size, h.block, h.own⟩
theorem MRt.drew {w w1 : World} {G : GR} {R : Nat → Nat → Bool} {nc : Nat} {cls : Nat → Nat} {g0 g1 g2 g3 : Nat} (h : MRt w G R nc cls g0 g1 g2 g3 w1) : MRt w G R nc cls g0 g1 g2 g3 w1.drew := h.kept ((Grew.refl Fam.nil w1).drew)

set_option maxRecDepth 40000 in
theorem arr_24 (arr : Array Value) (h : arr.size = 24) : ∃ y : Nat → Value, arr = #[y 0, y 1, y 2, y 3, y 4, y 5, y 6, y 7, y 8, y 9, y 10, y 11, y 12, y 13, y 14, y 15, y 16, y 17, y 18, y 19, y 20, y 21, y 22, y 23] ∧ ∀ i, y i = arr.getD i undef := by
  refine ⟨fun i => arr.getD i undef, ?_, fun _ => rfl⟩
  exact (arr_map arr 24 h undef).trans (by kernel_rfl)
set_option maxRecDepth 40000 in
theorem la24 {a : Act} {u0 : Value} (hs : a.tmps.size = 24) (hd : a.defers = []) (h0 : a.tmps.getD 0 undef = u0) : ∃ y : Nat → Value, a = { tmps := #[u0, y 1, y 2, y 3, y 4, y 5, y 6, y 7, y 8, y 9, y 10, y 11, y 12, y 13, y 14, y 15, y 16, y 17, y 18, y 19, y 20, y 21, y 22, y 23], defers := [] } := by
  obtain ⟨tmps, defers⟩ := a
  have yd : defers = [] := hd
  subst yd
  obtain ⟨y, hy, hi⟩ := arr_24 tmps hs
  have e0 := (hi 0).trans h0
  rw [e0] at hy
  exact ⟨y, congrArg (fun t => (⟨t, []⟩ : Act)) hy⟩

theorem step_load_cells {P : Program} {ops : Array Oper} {o : Oper} {a : Act} {w : World} {C : Act → World → Prop} {Q : Exit → Act → World → Prop} {E : Prop} (hgd : o.guard = none) (ty : TypeId) (x : Operand) (ho : o.op = .load ty x)
    (g : Nat) (hx : a.eval x = .pointer (some ⟨g, 0, none⟩)) (vs : List Value) (d : TypeDesc) (hc : ∀ j v, vs[j]? = some v → w.cell? ⟨g, j, none⟩ = some v)
    (hu : P.underlying ty = some d) (hd : (match d with | .struct _ | .array _ _ => true | _ => false) = true) (hi : (P.info? ty).map (·.size) = some vs.length)
    (h : C (a.put o.dst (.agg vs.toArray)) w) : if Region.wanted o (yielded ops a.tmps) = true then Oper.wp P o a w C Q else E := by
  have hw : Region.wanted o (yielded ops a.tmps) = true := by simp [Region.wanted, hgd]
  rw [if_pos hw]
  unfold Oper.wp execOp
  simp only [ho, hx, Instr.loadAt, Instr.sureAddr, Sem.run_bind, Sem.run_pure, Result.andThen_ok, run_loadVar_cells w g ty vs d hc hu hd hi]
  exact h

set_option maxRecDepth 40000 in
set_option maxHeartbeats 4000000 in
/-- Regions 8 to 10. -/
theorem law1_b (w w1 : World) (Nf : Fam) (G : GR) (a' : Option Addr) (k' : Nat) (hG : GM w1 Nf G a' k') (ok : G.Ok) (hw : Grew Fam.nil w Fam.nil w1) (ac : Act) (hs : ac.tmps.size = 24) (hd : ac.defers = []) (h0 : ac.tmps.getD 0 undef = .slice a' G.n k') :
    Code.wp Try.prog (tl 5 (Try.f3.body.getD .skip)) (bodyPost Try.prog Try.f3 fun e w' => e = .returned (.bool true) ∧ Below w.heap.size w w') ac w1 := by
  obtain ⟨y, rfl⟩ := la24 hs hd h0
  clear hs hd h0
  have HB : Hid (Calls Try.prog 10 #[.slice a' G.n k'] w1 (MRet w1 G)) := build_calls w1 Nf G a' k' hG ok
  have HG : Hid (GM w1 Nf G a' k') := hG
  have HO : Hid G.Ok := ok
  have HW : Hid (Grew Fam.nil w Fam.nil w1) := hw
  clear hG ok hw
  simp only [tl, Try.f3, Option.getD]
  refine wp_seq_k (fun K1 hK => ?_)
  have HK1 : Hid (∀ (a : Act) (w : World), _ → K1 a w) := hK
  clear hK
  go_wp2_with (go_at_call 10; refine HB.out.mono ?_; rintro e w2 ⟨R, nc, cls, g0, g1, g2, g3, rfl, hM⟩; have HM : Hid (MRt w1 G R nc cls g0 g1 g2 g3 w2) := hM; clear hM)
  refine HK1.out _ _ ?_
  clear HK1 K1 HB
  have b3 : (w2.alloc (.cells #[.int .i64 (G.n : Int), .slice (some ⟨g0, 0, none⟩) G.E G.E, .slice (some ⟨g1, 0, none⟩) G.E G.E, .slice (some ⟨g2, 0, none⟩) G.E G.E, .slice (some ⟨g3, 0, none⟩) G.E G.E, .int .i64 (nc : Int)] 29)).heap[w2.heap.size]? = some (.cells #[.int .i64 (G.n : Int), .slice (some ⟨g0, 0, none⟩) G.E G.E, .slice (some ⟨g1, 0, none⟩) G.E G.E, .slice (some ⟨g2, 0, none⟩) G.E G.E, .slice (some ⟨g3, 0, none⟩) G.E G.E, .int .i64 (nc : Int)] 29) := heap_alloc_new w2 _
  have g3' : Grew Fam.nil w2 Fam.nil (w2.alloc (.cells #[.int .i64 (G.n : Int), .slice (some ⟨g0, 0, none⟩) G.E G.E, .slice (some ⟨g1, 0, none⟩) G.E G.E, .slice (some ⟨g2, 0, none⟩) G.E G.E, .slice (some ⟨g3, 0, none⟩) G.E G.E, .int .i64 (nc : Int)] 29)) := (Grew.refl Fam.nil w2).alloc _
  generalize w2.heap.size = gb at *
  generalize w2.alloc (.cells #[.int .i64 (G.n : Int), .slice (some ⟨g0, 0, none⟩) G.E G.E, .slice (some ⟨g1, 0, none⟩) G.E G.E, .slice (some ⟨g2, 0, none⟩) G.E G.E, .slice (some ⟨g3, 0, none⟩) G.E G.E, .int .i64 (nc : Int)] 29) = w3 at *
  have hM3 := HM.out.kept g3'
  obtain ⟨D1, hD1⟩ := HM.out.grew
  have g13 : Grew Fam.nil w1 Fam.nil w3 := hD1.to_nil.trans g3'
  have HN : Hid (Calls Try.prog 11 #[.slice a' G.n k'] w3 fun e w' => ∃ p, e = .returned (.pointer (some ⟨p, 0, none⟩)) ∧ NDone w3 G p w') := zzNew_calls w3 Nf G a' k' (HG.out.kept g13) HO.out
  have H3 : Hid (MRt w1 G R nc cls g0 g1 g2 g3 w3 ∧ w3.heap[gb]? = some (.cells #[.int .i64 (G.n : Int), .slice (some ⟨g0, 0, none⟩) G.E G.E, .slice (some ⟨g1, 0, none⟩) G.E G.E, .slice (some ⟨g2, 0, none⟩) G.E G.E, .slice (some ⟨g3, 0, none⟩) G.E G.E, .int .i64 (nc : Int)] 29) ∧ Grew Fam.nil w Fam.nil w3) := ⟨hM3, b3, HW.out.trans g13⟩
  clear b3 g3' hM3 hD1 g13 HM HG HW
  refine wp_seq_k (fun K1 hK => ?_)
  have HK1 : Hid (∀ (a : Act) (w : World), _ → K1 a w) := hK
  clear hK
  go_wp2_with (go_at_call 11; refine HN.out.mono ?_; rintro e w4 ⟨p, rfl, hP⟩; have HP : Hid (NDone w3 G p w4) := hP; clear hP)
  refine HK1.out _ _ ?_
  clear HK1 K1 HN
  obtain ⟨hM3, b3, gw3⟩ := H3.out
  obtain ⟨M, PF, P, L, hpin, hmt, _, _, gr, nS, nC, _⟩ := HP.out.pin HO.out hM3.ok
  have gn := gr.to_nil
  have HT : Hid (Calls Try.prog 13 #[.pointer (some ⟨p, 0, none⟩)] w4.drew fun e w' => ∃ V, e = .returned (.agg #[V.val 0, V.val 1, V.val 2, V.val 3, V.val 4, V.val 5, V.val 6]) ∧ VOut w4.drew PF V w') := take_calls w4.drew M PF p hpin.drew
  have cells : ∀ w', Grew Fam.nil w3 Fam.nil w' → ∀ (j : Nat) (v : Value), ([.int .i64 (G.n : Int), .slice (some ⟨g0, 0, none⟩) G.E G.E, .slice (some ⟨g1, 0, none⟩) G.E G.E, .slice (some ⟨g2, 0, none⟩) G.E G.E, .slice (some ⟨g3, 0, none⟩) G.E G.E, .int .i64 (nc : Int)] : List Value)[j]? = some v → w'.cell? ⟨gb, j, none⟩ = some v := by
    intro w' hg j v hv
    refine hg.cell ?_
    rw [cell_of_row w3 gb j _ _ _ b3]
    simpa using hv
  have H4 : Hid (∀ (j : Nat) (v : Value), ([.int .i64 (G.n : Int), .slice (some ⟨g0, 0, none⟩) G.E G.E, .slice (some ⟨g1, 0, none⟩) G.E G.E, .slice (some ⟨g2, 0, none⟩) G.E G.E, .slice (some ⟨g3, 0, none⟩) G.E G.E, .int .i64 (nc : Int)] : List Value)[j]? = some v → w4.drew.cell? ⟨gb, j, none⟩ = some v) := cells _ gn.drew
  have H5 : Hid (∀ V w5, VOut w4.drew PF V w5 → ∀ (j : Nat) (v : Value), ([.int .i64 (G.n : Int), .slice (some ⟨g0, 0, none⟩) G.E G.E, .slice (some ⟨g1, 0, none⟩) G.E G.E, .slice (some ⟨g2, 0, none⟩) G.E G.E, .slice (some ⟨g3, 0, none⟩) G.E G.E, .int .i64 (nc : Int)] : List Value)[j]? = some v → w5.cell? ⟨gb, j, none⟩ = some v) := fun V w5 hV => cells _ (gn.drew.trans hV.2.1.to_nil)
  have HMT : Hid (∀ V w5, VOut w4.drew PF V w5 → Calls Try.prog 12 #[.agg #[.int .i64 (G.n : Int), .slice (some ⟨g0, 0, none⟩) G.E G.E, .slice (some ⟨g1, 0, none⟩) G.E G.E, .slice (some ⟨g2, 0, none⟩) G.E G.E, .slice (some ⟨g3, 0, none⟩) G.E G.E, .int .i64 (nc : Int)], .agg #[V.val 0, V.val 1, V.val 2, V.val 3, V.val 4, V.val 5, V.val 6]] w5 fun e w' => e = .returned (.bool true) ∧ Below w.heap.size w w') := by
    intro V w5 hV
    have g45 := gn.drew.trans hV.2.1.to_nil
    have hm5 := hM3.kept g45
    refine (meets_calls w5 (G.md R nc cls) PF (.slice (some ⟨g0, 0, none⟩) G.E G.E) (.slice (some ⟨g1, 0, none⟩) G.E G.E) (.slice (some ⟨g2, 0, none⟩) G.E G.E) (.slice (some ⟨g3, 0, none⟩) G.E G.E) (V.val 0) (V.val 1) (V.val 2) (V.val 3) (V.val 4) (V.val 5) (V.val 6) (mtIn_of HO.out hm5.cl hV.1 hV.2.2 (by omega) (by omega)) hmt).mono ?_
    rintro e w6 ⟨rfl, D, hD⟩
    refine ⟨rfl, ?_⟩
    have h6 : Grew Fam.nil w5 Fam.nil w6 := (((Grew.refl Fam.nil w5).alloc _).alloc _).trans hD.to_nil
    exact ((gw3.trans g45).trans h6).below
  clear H3 HP HO hM3 b3 gw3 hpin hmt gr nS nC gn cells
  have c0 := H4.out 0 _ rfl
  have c1 := H4.out 1 _ rfl
  have c2 := H4.out 2 _ rfl
  have c3 := H4.out 3 _ rfl
  have c4 := H4.out 4 _ rfl
  have c5 := H4.out 5 _ rfl
  go_wp2
  go_region_with (first
    | (go_at_call 13; refine HT.out.mono ?_; rintro e w5 ⟨V, rfl, hV⟩; have HV : Hid (VOut w4.drew PF V w5) := hV; clear hV; have d0 := H5.out V w5 HV.out 0 _ rfl; have d1 := H5.out V w5 HV.out 1 _ rfl; have d2 := H5.out V w5 HV.out 2 _ rfl; have d3 := H5.out V w5 HV.out 3 _ rfl; have d4 := H5.out V w5 HV.out 4 _ rfl; have d5 := H5.out V w5 HV.out 5 _ rfl)
    | (go_at_call 12; refine (HMT.out V w5 HV.out).mono ?_; rintro e w6 ⟨rfl, hBel⟩; have HBel : Hid (Below w.heap.size w w6) := hBel; clear hBel))
  all_goals
    go_wp2
    go_ret
    exact ⟨rfl, HBel.out⟩
end Go.Proofs.Qxb6602148a
