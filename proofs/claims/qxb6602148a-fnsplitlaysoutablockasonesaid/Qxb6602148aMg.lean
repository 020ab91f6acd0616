/-
  'zzBuildModel': its end; the model it hands back.
-/
import Derived.Test.Qxb6602148aMds
import Derived.Test.Qxb6602148aMf
import Derived.Laws.ResultCell
attribute [local go_sem] Go.Proofs.Qxb6602148a.yTo Go.Proofs.Qxb6602148a.yUpon
namespace Go.Proofs.Qxb6602148a
open Go.RowKit
set_option linter.unusedVariables false
set_option linter.unusedSimpArgs false

section
variable {P : Program} {K : Nat → TypeId × Nat} {w : World} {M : Fam}
theorem run_loadVar_cells (w : World) (g : Nat) (ty : TypeId) (vs : List Value) (d : TypeDesc) (hc : ∀ j v, vs[j]? = some v → w.cell? ⟨g, j, none⟩ = some v)
    (hu : P.underlying ty = some d) (hd : (match d with | .struct _ | .array _ _ => true | _ => false) = true) (hi : (P.info? ty).map (·.size) = some vs.length) :
    (loadVar ty ⟨g, 0, none⟩).run P w = .ok (.agg vs.toArray) w := by
  have hl : (loadCells ⟨g, 0, none⟩ vs.length).run P w = .ok vs.toArray w :=
    run_loadCells_list (P := P) w ⟨g, 0, none⟩ vs (fun j v hv => by
      have hadd : (⟨g, 0, none⟩ : Addr).add j = ⟨g, j, none⟩ := by unfold Addr.add; split <;> simp_all
      rw [hadd]; exact hc j v hv)
  cases hq : P.info? ty with
  | none => simp [hq] at hi
  | some i =>
    have hs : i.size = vs.length := by simpa [hq] using hi
    have hagg : (isAgg ty).run P w = .ok true w := by
      unfold isAgg
      rw [Sem.run_bind, run_underlying hu w]
      cases d <;> simp_all
    simp [loadVar, Sem.run_bind, hagg, sizeOf, typeInfo, hq, hs, hl]
theorem wpList_load_cells {ops : Array Oper} {rest : List Oper} {o : Oper} {a : Act} {w : World} {Q : Exit → Act → World → Prop} (hgd : o.guard = none) (ty : TypeId) (x : Operand) (ho : o.op = .load ty x)
    (g : Nat) (hx : a.eval x = .pointer (some ⟨g, 0, none⟩)) (vs : List Value) (d : TypeDesc) (hc : ∀ j v, vs[j]? = some v → w.cell? ⟨g, j, none⟩ = some v)
    (hu : P.underlying ty = some d) (hd : (match d with | .struct _ | .array _ _ => true | _ => false) = true) (hi : (P.info? ty).map (·.size) = some vs.length)
    (h : wpList P ops Q rest (a.put o.dst (.agg vs.toArray)) w) : wpList P ops Q (o :: rest) a w :=
  wpList_plain hgd fun _ hK => by
    unfold Oper.wp execOp
    simp only [ho, hx, Instr.loadAt, Instr.sureAddr, Sem.run_bind, Sem.run_pure, Result.andThen_ok, run_loadVar_cells w g ty vs d hc hu hd hi]
    exact hK _ _ h
theorem run_store_rep (h : Rep K w M) {r g j : Nat} (hb : M.b r = some g) (hj : j < M.n r * (K r).2) {v : Value} (h1 : v.oneCell' = true) : (store ((⟨g, 0, none⟩ : Addr).add j) v).run P w = .ok () (w.setCell ⟨g, j, none⟩ v) := by
  have hadd : (⟨g, 0, none⟩ : Addr).add j = ⟨g, j, none⟩ := by unfold Addr.add; split <;> simp_all
  rw [hadd, run_store P w _ v _ h1, h.cell hb hj]
  simp [h.frozen hb]
/-- Six cells are stored. -/
theorem run_store_six (h : Rep K w M) {r g : Nat} (hb : M.b r = some g) (hn : M.n r = 1) (hK : (K r).2 = 6) (ty : TypeId) (hi : (P.info? ty).map (·.size) = some 6) (v0 v1 v2 v3 v4 v5 : Value) (o0 : v0.oneCell' = true) (o1 : v1.oneCell' = true) (o2 : v2.oneCell' = true) (o3 : v3.oneCell' = true) (o4 : v4.oneCell' = true) (o5 : v5.oneCell' = true) :
    (storeVar ty ⟨g, 0, none⟩ (.agg #[v0, v1, v2, v3, v4, v5])).run P w = .ok () ((((((w.setCell ⟨g, 0, none⟩ v0).setCell ⟨g, 1, none⟩ v1).setCell ⟨g, 2, none⟩ v2).setCell ⟨g, 3, none⟩ v3).setCell ⟨g, 4, none⟩ v4).setCell ⟨g, 5, none⟩ v5) ∧ Rep K ((((((w.setCell ⟨g, 0, none⟩ v0).setCell ⟨g, 1, none⟩ v1).setCell ⟨g, 2, none⟩ v2).setCell ⟨g, 3, none⟩ v3).setCell ⟨g, 4, none⟩ v4).setCell ⟨g, 5, none⟩ v5) ((((((M.set r 0 v0).set r 1 v1).set r 2 v2).set r 3 v3).set r 4 v4).set r 5 v5) := by
  have r1 := h.set hb 0 v0
  have r2 := r1.set (i := r) hb 1 v1
  have r3 := r2.set (i := r) hb 2 v2
  have r4 := r3.set (i := r) hb 3 v3
  have r5 := r4.set (i := r) hb 4 v4
  have r6 := r5.set (i := r) hb 5 v5
  have hlt : ∀ j, j < 6 → j < M.n r * (K r).2 := by intro j hj; rw [hn, hK]; omega
  have s0 := run_store_rep (P := P) h hb (hlt 0 (by omega)) o0
  have s1 := run_store_rep (P := P) r1 (r := r) hb (hlt 1 (by omega)) o1
  have s2 := run_store_rep (P := P) r2 (r := r) hb (hlt 2 (by omega)) o2
  have s3 := run_store_rep (P := P) r3 (r := r) hb (hlt 3 (by omega)) o3
  have s4 := run_store_rep (P := P) r4 (r := r) hb (hlt 4 (by omega)) o4
  have s5 := run_store_rep (P := P) r5 (r := r) hb (hlt 5 (by omega)) o5
  refine ⟨?_, r6⟩
  cases hq : P.info? ty with
  | none => simp [hq] at hi
  | some i =>
    have hs : i.size = 6 := by simpa [hq] using hi
    have hc : (Value.agg #[v0, v1, v2, v3, v4, v5]).cells = #[v0, v1, v2, v3, v4, v5] := rfl
    have e : (storeCells ⟨g, 0, none⟩ [v0, v1, v2, v3, v4, v5]).run P w = .ok () ((((((w.setCell ⟨g, 0, none⟩ v0).setCell ⟨g, 1, none⟩ v1).setCell ⟨g, 2, none⟩ v2).setCell ⟨g, 3, none⟩ v3).setCell ⟨g, 4, none⟩ v4).setCell ⟨g, 5, none⟩ v5) := by
      simp only [storeCells, Sem.run_bind, s0, s1, s2, s3, s4, s5, Result.andThen_ok, Nat.zero_add]
      rfl
    simp [storeVar, sizeOf, typeInfo, hq, hs, hc, e]
theorem wpList_store_six {ops : Array Oper} {rest : List Oper} {o : Oper} {a : Act} {Q : Exit → Act → World → Prop} (hgd : o.guard = none) (ty : TypeId) (x y : Operand) (ho : o.op = .store ty x y)
    (g r : Nat) (v0 v1 v2 v3 v4 v5 : Value) (hx : a.eval x = .pointer (some ⟨g, 0, none⟩)) (hy : a.eval y = .agg #[v0, v1, v2, v3, v4, v5]) (h : Rep K w M) (hb : M.b r = some g) (hn : M.n r = 1) (hK : (K r).2 = 6) (hi : (P.info? ty).map (·.size) = some 6) (o0 : v0.oneCell' = true) (o1 : v1.oneCell' = true) (o2 : v2.oneCell' = true) (o3 : v3.oneCell' = true) (o4 : v4.oneCell' = true) (o5 : v5.oneCell' = true)
    (hC : wpList P ops Q rest (a.put o.dst undef) ((((((w.setCell ⟨g, 0, none⟩ v0).setCell ⟨g, 1, none⟩ v1).setCell ⟨g, 2, none⟩ v2).setCell ⟨g, 3, none⟩ v3).setCell ⟨g, 4, none⟩ v4).setCell ⟨g, 5, none⟩ v5)) : wpList P ops Q (o :: rest) a w :=
  wpList_plain hgd fun _ hKK => by
    unfold Oper.wp execOp
    simp only [ho, hx, hy, Instr.storeAt, Instr.sureAddr, Sem.run_bind, Sem.run_pure, Result.andThen_ok, (run_store_six (P := P) h hb hn hK ty hi v0 v1 v2 v3 v4 v5 o0 o1 o2 o3 o4 o5).1]
    exact hKK _ _ hC
theorem results_cells {fn : Func} {p : Tmp} {ty : TypeId} (h : fn.results = #[.cell p ty]) (tmps : Array Value) (w : World) (g : Nat) (vs : List Value) (d : TypeDesc)
    (hp : tmps.getD p undef = .pointer (some ⟨g, 0, none⟩)) (hc : ∀ j v, vs[j]? = some v → w.cell? ⟨g, j, none⟩ = some v)
    (hu : P.underlying ty = some d) (hd : (match d with | .struct _ | .array _ _ => true | _ => false) = true) (hi : (P.info? ty).map (·.size) = some vs.length) :
    (results fn tmps).run P w = .ok (.agg vs.toArray) w := by
  have hp' : tmps[p]?.getD undef = .pointer (some ⟨g, 0, none⟩) := by simpa using hp
  simp [results, h, hp', asAddr, run_loadVar_cells w g ty vs d hc hu hd hi]
end
theorem six_of {w : World} {g : Nat} {v0 v1 v2 v3 v4 v5 : Value} (c0 : w.cell? ⟨g, 0, none⟩ = some v0) (c1 : w.cell? ⟨g, 1, none⟩ = some v1) (c2 : w.cell? ⟨g, 2, none⟩ = some v2) (c3 : w.cell? ⟨g, 3, none⟩ = some v3) (c4 : w.cell? ⟨g, 4, none⟩ = some v4) (c5 : w.cell? ⟨g, 5, none⟩ = some v5) : ∀ (j : Nat) (v : Value), ([v0, v1, v2, v3, v4, v5] : List Value)[j]? = some v → w.cell? ⟨g, j, none⟩ = some v
  | 0, v, h => by rw [c0]; simpa using h
  | 1, v, h => by rw [c1]; simpa using h
  | 2, v, h => by rw [c2]; simpa using h
  | 3, v, h => by rw [c3]; simpa using h
  | 4, v, h => by rw [c4]; simpa using h
  | 5, v, h => by rw [c5]; simpa using h
  | j + 6, v, h => by simp at h

/-- What 'zzBuildModel' leaves: the model's lists, and what they say. -/
structure MRt (w : World) (G : GR) (R : Nat → Nat → Bool) (nc : Nat) (cls : Nat → Nat) (g0 g1 g2 g3 : Nat) (w' : World) : Prop where
  grew : ∃ D, Grew Fam.nil w D w'
  c0 : ∀ e, e < G.E → w'.cell? ⟨g0, e, none⟩ = some (.int .i64 ((G.sr e : Nat) : Int))
  c1 : ∀ e, e < G.E → w'.cell? ⟨g1, e, none⟩ = some (.int .i64 ((G.ds e : Nat) : Int))
  c2 : ∀ e, e < G.E → w'.cell? ⟨g2, e, none⟩ = some (.bool (G.ocb R e))
  c3 : ∃ f : Nat → Int, (∀ e, e < G.E → w'.cell? ⟨g3, e, none⟩ = some (.int .i64 (f e))) ∧ ∀ e, e < G.E → G.ocb R e = true → f e = ((cls e : Nat) : Int)
  ok : MOk G R nc cls
  nw : w.heap.size ≤ g0 ∧ w.heap.size ≤ g1 ∧ w.heap.size ≤ g2 ∧ w.heap.size ≤ g3
def MRet (w : World) (G : GR) (e : Ending) (w' : World) : Prop := ∃ (R : Nat → Nat → Bool) (nc : Nat) (cls : Nat → Nat) (g0 g1 g2 g3 : Nat), e = .returned (.agg #[.int .i64 (G.n : Int), .slice (some ⟨g0, 0, none⟩) G.E G.E, .slice (some ⟨g1, 0, none⟩) G.E G.E, .slice (some ⟨g2, 0, none⟩) G.E G.E, .slice (some ⟨g3, 0, none⟩) G.E G.E, .int .i64 (nc : Int)]) ∧ MRt w G R nc cls g0 g1 g2 g3 w'

/-- The classes, once every list has been gone through. -/
theorem CA.mok {w0 w : World} {G : GR} {R : Nat → Nat → Bool} {nc : Nat} {cn : Nat → Nat} {cl : Nat → Nat → Nat} (hRS : RS G G.n R) (hc : PT (Sb G R G.E) (Rl G R G.n) nc cn cl) (cI : Nat → Int) (h : ∀ i' j', i' < nc → j' < cn i' → cI (cl i' j') = ((i' : Nat) : Int)) : MOk G R nc (fun e => (cI e).toNat) ∧ ∀ e, e < G.E → G.ocb R e = true → cI e = (((cI e).toNat : Nat) : Int) := by
  have at' : ∀ e, e < G.E → G.ocb R e = true → ∃ i j, i < nc ∧ j < cn i ∧ cl i j = e ∧ cI e = ((i : Nat) : Int) := by
    intro e he ho
    obtain ⟨i, j, h1, h2, h3⟩ := hc.ex e ⟨he, ho⟩
    exact ⟨i, j, h1, h2, h3, by rw [← h3]; exact h i j h1 h2⟩
  refine ⟨⟨hRS, fun e he ho => ?_, fun e e' he he' ho ho' => ?_, hc.nc_le (fun f hf => hf.1)⟩, fun e he ho => ?_⟩
  · obtain ⟨i, j, h1, h2, h3, h4⟩ := at' e he ho
    show (cI e).toNat < nc
    rw [h4, Int.toNat_natCast]; exact h1
  · obtain ⟨i, j, h1, h2, h3, h4⟩ := at' e he ho
    obtain ⟨i', j', h1', h2', h3', h4'⟩ := at' e' he' ho'
    show (cI e).toNat = (cI e').toNat ↔ _
    rw [h4, h4', Int.toNat_natCast, Int.toNat_natCast, hc.eqv i j i' j' h1 h2 h1' h2', h3, h3']
  · obtain ⟨i, j, h1, h2, h3, h4⟩ := at' e he ho
    rw [h4, Int.toNat_natCast]

set_option maxRecDepth 40000 in
set_option maxHeartbeats 8000000 in
/-- Regions 113 and 114, and the end. -/
theorem md_17 (w : World) (G : GR) (a0 : Option Addr) (k0 ga gm g0 g1 g2 g3 : Nat) (R : Nat → Nat → Bool) (v20 : Value) (B nc : Nat) (cn : Nat → Nat) (cl : Nat → Nat → Nat) (ok : G.Ok) (hRS : RS G G.n R) (hc : PT (Sb G R G.E) (Rl G R G.n) nc cn cl) (wr : World) (hI : CA w G ga gm g0 g1 g2 g3 R v20 B nc cn cl nc 0 wr) (a : Act) (hf : FE a0 G.n k0 ga gm G.E a) (h20 : a.tmps.getD 20 undef = v20) :
    Code.wp Try.prog (tl 26 (Try.f10.body.getD .skip)) (bodyPost Try.prog Try.f10 fun e w' => MRet w G e w') a wr := by
  obtain ⟨cI, D, hD, hv7, hL7, hcls⟩ := hI
  have hE := ok.E
  have hncE : nc ≤ G.E := hc.nc_le (fun f hf => hf.1)
  have hv : D.val 7 = .slice ((D.b 7).map fun g => ⟨g, 0, none⟩) nc (D.cap 7) := by unfold Fam.val; rw [hL7.n]
  rw [hv] at hv7
  have x5 : wr.cell? ⟨gm, 5, none⟩ = some (.int .i64 0) := DS.hd hD (f := 5) (by decide)
  have y5 := hD.rep.frozen hD.b14 5
  -- behind region 113
  have r1 := hD.rep.set hD.b14 5 (.int .i64 (nc : Int))
  have q1 := hD.grew.set ⟨14, hD.b14⟩ 14 5 (.int .i64 (nc : Int)) (.int .i64 (nc : Int)) (j := 5)
  have hdd : ∀ f, f < 5 → (wr.setCell ⟨gm, 5, none⟩ (.int .i64 (nc : Int))).cell? ⟨gm, f, none⟩ = some (mfl G.n (.slice (some ⟨g0, 0, none⟩) G.E G.E) (.slice (some ⟨g1, 0, none⟩) G.E G.E) (.slice (some ⟨g2, 0, none⟩) G.E G.E) (.slice (some ⟨g3, 0, none⟩) G.E G.E) 0 f) := by
    intro f hf
    rw [r1.cell (i := 14) hD.b14 (j := f) (by show f < D.n 14 * 6; rw [hD.n14]; omega), show (D.set 14 5 (.int .i64 (nc : Int))).F 14 f = D.F 14 f by simp [Fam.set, show f ≠ 5 by omega], hD.F14 f (by omega)]
  have hd5 : (wr.setCell ⟨gm, 5, none⟩ (.int .i64 (nc : Int))).cell? ⟨gm, 5, none⟩ = some (.int .i64 (nc : Int)) := by
    rw [r1.cell (i := 14) hD.b14 (j := 5) (by show 5 < D.n 14 * 6; rw [hD.n14]; omega)]
    simp [Fam.set]
  have six1 := six_of (hdd 0 (by omega)) (hdd 1 (by omega)) (hdd 2 (by omega)) (hdd 3 (by omega)) (hdd 4 (by omega)) hd5
  -- behind region 114
  obtain ⟨_, r2⟩ := run_store_six (P := Try.prog) r1 (r := 15) hD.b15 hD.n15 rfl 29 (by kernel_rfl) (.int .i64 (G.n : Int)) (.slice (some ⟨g0, 0, none⟩) G.E G.E) (.slice (some ⟨g1, 0, none⟩) G.E G.E) (.slice (some ⟨g2, 0, none⟩) G.E G.E) (.slice (some ⟨g3, 0, none⟩) G.E G.E) (.int .i64 (nc : Int)) rfl rfl rfl rfl rfl rfl
  have HR1 : Hid (Rep KD (wr.setCell ⟨gm, 5, none⟩ (.int .i64 (nc : Int))) (D.set 14 5 (.int .i64 (nc : Int)))) := r1
  have b15 : (D.set 14 5 (.int .i64 (nc : Int))).b 15 = some ga := hD.b15
  have n15 : (D.set 14 5 (.int .i64 (nc : Int))).n 15 = 1 := hD.n15
  have HSIX1 : Hid (∀ (j : Nat) (v : Value), ([.int .i64 (G.n : Int), .slice (some ⟨g0, 0, none⟩) G.E G.E, .slice (some ⟨g1, 0, none⟩) G.E G.E, .slice (some ⟨g2, 0, none⟩) G.E G.E, .slice (some ⟨g3, 0, none⟩) G.E G.E, .int .i64 (nc : Int)] : List Value)[j]? = some v → (wr.setCell ⟨gm, 5, none⟩ (.int .i64 (nc : Int))).cell? ⟨gm, j, none⟩ = some v) := six1
  obtain ⟨mok, cIe⟩ := CA.mok (w0 := w) (w := wr) hRS hc cI (fun i' j' a b => hcls i' j' a b (.inl a))
  have gq : ∀ (w2 : World) (D2 : Fam), Grew Fam.nil w D2 w2 → D2.b 15 = some ga → ∀ (j : Nat) (v : Value), Grew Fam.nil w (D2.set 15 j v) (w2.setCell ⟨ga, j, none⟩ v) := fun w2 D2 h hb j v => h.set ⟨15, hb⟩ _ _ _ _
  have r2g := gq _ _ (gq _ _ (gq _ _ (gq _ _ (gq _ _ (gq _ _ q1 hD.b15 0 (.int .i64 (G.n : Int))) hD.b15 1 (.slice (some ⟨g0, 0, none⟩) G.E G.E)) hD.b15 2 (.slice (some ⟨g1, 0, none⟩) G.E G.E)) hD.b15 3 (.slice (some ⟨g2, 0, none⟩) G.E G.E)) hD.b15 4 (.slice (some ⟨g3, 0, none⟩) G.E G.E)) hD.b15 5 (.int .i64 (nc : Int))
  have FIN : Hid (∀ w2 D2, Rep KD w2 D2 → Grew Fam.nil w D2 w2 → (∀ i, D2.b i = D.b i) → (∀ i, D2.n i = D.n i) → (∀ i, i < 14 → D2.F i = D.F i) → MRt w G R nc (fun e => (cI e).toNat) g0 g1 g2 g3 w2) := by
    intro w2 D2 h1 h2 h3 h4 h5
    have i0 : Ints D2 0 G.E (fun j => ((G.sr j : Nat) : Int)) := ⟨by rw [h4]; exact hD.i0.1, fun j hj => by rw [h5 0 (by omega)]; exact hD.i0.2 j hj⟩
    have i1 : Ints D2 1 G.E (fun j => ((G.ds j : Nat) : Int)) := ⟨by rw [h4]; exact hD.i1.1, fun j hj => by rw [h5 1 (by omega)]; exact hD.i1.2 j hj⟩
    have i2 : Bools D2 2 G.E (G.ocb R) := ⟨by rw [h4]; exact hD.i2.1, fun j hj => by rw [h5 2 (by omega)]; exact hD.i2.2 j hj⟩
    have i3 : Ints D2 3 G.E cI := ⟨by rw [h4]; exact hD.i3.1, fun j hj => by rw [h5 3 (by omega)]; exact hD.i3.2 j hj⟩
    exact ⟨⟨D2, h2⟩, fun e he => i0.cell' h1 (by rw [h3]; exact hD.b0) rfl he, fun e he => i1.cell' h1 (by rw [h3]; exact hD.b1) rfl he, fun e he => i2.cell h1 (by rw [h3]; exact hD.b2) rfl he, ⟨cI, fun e he => i3.cell' h1 (by rw [h3]; exact hD.b3) rfl he, cIe⟩, mok, DS.new hD hD.b0, DS.new hD hD.b1, DS.new hD hD.b2, DS.new hD hD.b3⟩
  have fin := FIN.out _ _ r2 r2g (fun i => rfl) (fun i => rfl) (fun i hi => by
    funext j
    rw [set_F _ (by omega), set_F _ (by omega), set_F _ (by omega), set_F _ (by omega), set_F _ (by omega), set_F _ (by omega), set_F _ (by omega)])
  have sx : ∀ (j : Nat) (v : Value), ([.int .i64 (G.n : Int), .slice (some ⟨g0, 0, none⟩) G.E G.E, .slice (some ⟨g1, 0, none⟩) G.E G.E, .slice (some ⟨g2, 0, none⟩) G.E G.E, .slice (some ⟨g3, 0, none⟩) G.E G.E, .int .i64 (nc : Int)] : List Value)[j]? = some v → _ := six_of (g := ga)
    ((r2.cell (i := 15) hD.b15 (j := 0) (by show 0 < D.n 15 * 6; rw [hD.n15]; omega)).trans (by simp [Fam.set]))
    ((r2.cell (i := 15) hD.b15 (j := 1) (by show 1 < D.n 15 * 6; rw [hD.n15]; omega)).trans (by simp [Fam.set]))
    ((r2.cell (i := 15) hD.b15 (j := 2) (by show 2 < D.n 15 * 6; rw [hD.n15]; omega)).trans (by simp [Fam.set]))
    ((r2.cell (i := 15) hD.b15 (j := 3) (by show 3 < D.n 15 * 6; rw [hD.n15]; omega)).trans (by simp [Fam.set]))
    ((r2.cell (i := 15) hD.b15 (j := 4) (by show 4 < D.n 15 * 6; rw [hD.n15]; omega)).trans (by simp [Fam.set]))
    ((r2.cell (i := 15) hD.b15 (j := 5) (by show 5 < D.n 15 * 6; rw [hD.n15]; omega)).trans (by simp [Fam.set]))
  have FF : Hid (MRt w G R nc (fun e => (cI e).toNat) g0 g1 g2 g3 _ ∧ ∀ (j : Nat) (v : Value), ([.int .i64 (G.n : Int), .slice (some ⟨g0, 0, none⟩) G.E G.E, .slice (some ⟨g1, 0, none⟩) G.E G.E, .slice (some ⟨g2, 0, none⟩) G.E G.E, .slice (some ⟨g3, 0, none⟩) G.E G.E, .int .i64 (nc : Int)] : List Value)[j]? = some v → _) := ⟨fin, sx⟩
  clear hcls hv hdd hd5 six1 r1 q1 r2 r2g gq FIN fin sx mok cIe hL7 hRS hc hD ok
  generalize (D.b 7).map (fun g => (⟨g, 0, none⟩ : Addr)) = o7 at *
  generalize D.cap 7 = k7 at *
  subst hv7
  obtain ⟨y, rfl⟩ := litw20 hf.fm.sz hf.fm.df hf.fm.s0 hf.fm.s2 hf.fm.s3 hf.fm.s4 hf.s5 h20
  clear hf h20
  simp only [tl, Try.f10, Option.getD]
  go_wp2_with (first
    | (refine wpList_load_cells rfl 29 (.tmp 4) rfl gm rfl [.int .i64 (G.n : Int), .slice (some ⟨g0, 0, none⟩) G.E G.E, .slice (some ⟨g1, 0, none⟩) G.E G.E, .slice (some ⟨g2, 0, none⟩) G.E G.E, .slice (some ⟨g3, 0, none⟩) G.E G.E, .int .i64 (nc : Int)] _ HSIX1.out Try.underlying29 rfl (by kernel_rfl) ?_)
    | (refine wpList_store_six rfl 29 (.tmp 2) (.tmp 450) rfl ga 15 (.int .i64 (G.n : Int)) (.slice (some ⟨g0, 0, none⟩) G.E G.E) (.slice (some ⟨g1, 0, none⟩) G.E G.E) (.slice (some ⟨g2, 0, none⟩) G.E G.E) (.slice (some ⟨g3, 0, none⟩) G.E G.E) (.int .i64 (nc : Int)) rfl rfl HR1.out b15 n15 rfl (by kernel_rfl) rfl rfl rfl rfl rfl rfl ?_))
  refine bodyPost_ret (results_cells rfl _ _ ga [.int .i64 (G.n : Int), .slice (some ⟨g0, 0, none⟩) G.E G.E, .slice (some ⟨g1, 0, none⟩) G.E G.E, .slice (some ⟨g2, 0, none⟩) G.E G.E, .slice (some ⟨g3, 0, none⟩) G.E G.E, .int .i64 (nc : Int)] _ rfl FF.out.2 Try.underlying29 rfl (by kernel_rfl)) rfl ?_
  exact ⟨R, nc, _, g0, g1, g2, g3, rfl, FF.out.1⟩

set_option maxRecDepth 40000 in
set_option maxHeartbeats 8000000 in
/-- 'zzBuildModel'. -/
theorem build_calls (w : World) (Nf : Fam) (G : GR) (a0 : Option Addr) (k0 : Nat) (hG : GM w Nf G a0 k0) (ok : G.Ok) : Calls Try.prog 10 #[.slice a0 G.n k0] w (MRet w G) := by
  refine calls_of_wp (c := (Try.f10.body.getD .skip)) Try.func10 rfl ?_
  have hfr : ({ tmps := #[.slice a0 G.n k0] ++ Array.replicate (Try.f10.ntmps - (#[.slice a0 G.n k0] : Array Value).size) undef, defers := [] } : Act) = { tmps := #[.slice a0 G.n k0, undef, undef, undef, undef, undef, undef, undef, undef, undef, undef, undef, undef, undef, undef, undef, undef, undef, undef, undef, undef, undef, undef, undef, undef, undef, undef, undef, undef, undef, undef, undef, undef, undef, undef, undef, undef, undef, undef, undef, undef, undef, undef, undef, undef, undef, undef, undef, undef, undef, undef, undef, undef, undef, undef, undef, undef, undef, undef, undef, undef, undef, undef, undef, undef, undef, undef, undef, undef, undef, undef, undef, undef, undef, undef, undef, undef, undef, undef, undef, undef, undef, undef, undef, undef, undef, undef, undef, undef, undef, undef, undef, undef, undef, undef, undef, undef, undef, undef, undef, undef, undef, undef, undef, undef, undef, undef, undef, undef, undef, undef, undef, undef, undef, undef, undef, undef, undef, undef, undef, undef, undef, undef, undef, undef, undef, undef, undef, undef, undef, undef, undef, undef, undef, undef, undef, undef, undef, undef, undef, undef, undef, undef, undef, undef, undef, undef, undef, undef, undef, undef, undef, undef, undef, undef, undef, undef, undef, undef, undef, undef, undef, undef, undef, undef, undef, undef, undef, undef, undef, undef, undef, undef, undef, undef, undef, undef, undef, undef, undef, undef, undef, undef, undef, undef, undef, undef, undef, undef, undef, undef, undef, undef, undef, undef, undef, undef, undef, undef, undef, undef, undef, undef, undef, undef, undef, undef, undef, undef, undef, undef, undef, undef, undef, undef, undef, undef, undef, undef, undef, undef, undef, undef, undef, undef, undef, undef, undef, undef, undef, undef, undef, undef, undef, undef, undef, undef, undef, undef, undef, undef, undef, undef, undef, undef, undef, undef, undef, undef, undef, undef, undef, undef, undef, undef, undef, undef, undef, undef, undef, undef, undef, undef, undef, undef, undef, undef, undef, undef, undef, undef, undef, undef, undef, undef, undef, undef, undef, undef, undef, undef, undef, undef, undef, undef, undef, undef, undef, undef, undef, undef, undef, undef, undef, undef, undef, undef, undef, undef, undef, undef, undef, undef, undef, undef, undef, undef, undef, undef, undef, undef, undef, undef, undef, undef, undef, undef, undef, undef, undef, undef, undef, undef, undef, undef, undef, undef, undef, undef, undef, undef, undef, undef, undef, undef, undef, undef, undef, undef, undef, undef, undef, undef, undef, undef, undef, undef, undef, undef, undef, undef, undef, undef, undef, undef, undef, undef, undef, undef, undef, undef, undef, undef, undef, undef, undef, undef, undef, undef, undef, undef, undef, undef, undef, undef, undef, undef, undef, undef, undef, undef, undef, undef, undef, undef, undef, undef, undef, undef, undef, undef, undef, undef, undef, undef, undef, undef, undef, undef, undef, undef, undef, undef, undef, undef, undef, undef, undef, undef, undef, undef, undef, undef, undef, undef, undef, undef, undef, undef, undef, undef, undef, undef, undef, undef, undef, undef, undef, undef, undef, undef, undef, undef, undef, undef, undef, undef, undef, undef, undef, undef, undef, undef, undef, undef, undef, undef, undef, undef, undef, undef], defers := [] } := by kernel_rfl
  rw [hfr]
  clear hfr
  have e5 : tl 5 (Try.f10.body.getD .skip) = Code.seq (sL (tl 5 (Try.f10.body.getD .skip))) (tl 6 (Try.f10.body.getD .skip)) := by kernel_rfl
  have e6 : tl 11 (Try.f10.body.getD .skip) = tl 5 (tl 6 (Try.f10.body.getD .skip)) := by kernel_rfl
  have e11 : tl 11 (Try.f10.body.getD .skip) = Code.seq (sL (tl 11 (Try.f10.body.getD .skip))) (tl 12 (Try.f10.body.getD .skip)) := by kernel_rfl
  have e12 : tl 14 (Try.f10.body.getD .skip) = tl 2 (tl 12 (Try.f10.body.getD .skip)) := by kernel_rfl
  have e14 : tl 14 (Try.f10.body.getD .skip) = Code.seq (sL (tl 14 (Try.f10.body.getD .skip))) (tl 15 (Try.f10.body.getD .skip)) := by kernel_rfl
  have e15 : tl 15 (Try.f10.body.getD .skip) = Code.seq (sL (tl 15 (Try.f10.body.getD .skip))) (tl 16 (Try.f10.body.getD .skip)) := by kernel_rfl
  have e16 : tl 17 (Try.f10.body.getD .skip) = tl 1 (tl 16 (Try.f10.body.getD .skip)) := by kernel_rfl
  have e17 : tl 17 (Try.f10.body.getD .skip) = Code.seq (sL (tl 17 (Try.f10.body.getD .skip))) (tl 18 (Try.f10.body.getD .skip)) := by kernel_rfl
  have e18 : tl 19 (Try.f10.body.getD .skip) = tl 1 (tl 18 (Try.f10.body.getD .skip)) := by kernel_rfl
  have e19 : tl 19 (Try.f10.body.getD .skip) = Code.seq (sL (tl 19 (Try.f10.body.getD .skip))) (tl 20 (Try.f10.body.getD .skip)) := by kernel_rfl
  have e20 : tl 24 (Try.f10.body.getD .skip) = tl 4 (tl 20 (Try.f10.body.getD .skip)) := by kernel_rfl
  have e24 : tl 24 (Try.f10.body.getD .skip) = Code.seq (sL (tl 24 (Try.f10.body.getD .skip))) (tl 25 (Try.f10.body.getD .skip)) := by kernel_rfl
  have e25 : tl 25 (Try.f10.body.getD .skip) = Code.seq (sL (tl 25 (Try.f10.body.getD .skip))) (tl 26 (Try.f10.body.getD .skip)) := by kernel_rfl
  have h1 := md_1 w G.n a0 k0 (fun _ => undef) (tl 5 (Try.f10.body.getD .skip)) (MRet w G) ?_
  · rw [rt_tl] at h1
    exact h1
  generalize w.heap.size + 1 = gm at *
  generalize w.heap.size = ga at *
  intro a w1 hf h5 hM
  rw [e5]
  refine wp_seq ?_
  refine md_2 Nf G a0 k0 ga gm ok w1 (hG.kept hM.grew) a hf h5 _ ?_
  intro a hf h5
  have h3 := md_3 w G.n G.E a0 k0 ga gm ok.E w1 hM a hf h5 (tl 11 (Try.f10.body.getD .skip)) (MRet w G) ?_
  · rw [e6, rt_tl] at h3
    exact h3
  intro a w2 g0 g1 g2 g3 hf h5 h7 hD
  rw [e11]
  refine wp_seq ?_
  refine md_4 w Nf G a0 k0 ga gm g0 g1 g2 g3 ok hG w2 ⟨_, _, _, hD, fun r r1 r2 r3 => by simp [D4, D0, Fam.set, Fam.put, Fam.nil, r2, r3, show r ≠ 0 by omega, show r ≠ 1 by omega, show r ≠ 2 by omega, show r ≠ 3 by omega], fun j h => absurd h (Nat.not_lt_zero _)⟩ a ⟨hf, h5⟩ h7 _ ?_
  intro a w3 hf hI
  obtain ⟨D, hD⟩ := hI.all
  have h5 := md_5 w G a0 k0 ga gm g0 g1 g2 g3 ok D w3 hD a hf (tl 14 (Try.f10.body.getD .skip)) (MRet w G) ?_
  · rw [e12, rt_tl] at h5
    exact h5
  intro a w4 g4 g5 hf hI
  rw [e14]
  refine wp_seq ?_
  refine md_6 w Nf G a0 k0 ga gm g0 g1 g2 g3 g4 g5 _ rfl ok hG w4 hI a hf _ ?_
  intro a w5 hf hI
  obtain ⟨R, Q, D, hB, hRS⟩ := hI
  show Code.wp Try.prog (tl 15 (Try.f10.body.getD .skip)) _ a w5
  rw [e15]
  refine wp_seq ?_
  refine md_7 w G a0 k0 ga gm g0 g1 g2 g3 g4 _ rfl ok R w5 ⟨_, _, D, ⟨hB.ds, hB.b4, hB.r4⟩, fun j h => absurd h (Nat.not_lt_zero _)⟩ a ⟨hf.fe, hf.s10⟩ _ ?_
  intro a w6 hf hI
  have h8 := md_8 w G a0 k0 ga gm g0 g1 g2 g3 g4 _ ok R w6 hI a hf (tl 17 (Try.f10.body.getD .skip)) (MRet w G) ?_
  · rw [e16, rt_tl] at h8
    exact h8
  intro a w7 g6 hf hI
  rw [e17]
  refine wp_seq ?_
  refine md_9 w G a0 k0 ga gm g0 g1 g2 g3 g4 _ ok R g6 w7 hI a hf _ ?_
  intro a w8 hf hI
  obtain ⟨D, hS⟩ := hI.all
  have h10 := md_10 a0 G.n k0 ga gm G.E g4 _ g6 w8 a hf (tl 19 (Try.f10.body.getD .skip)) (MRet w G) ?_
  · rw [e18, rt_tl] at h10
    exact h10
  intro a hf h20
  rw [e19]
  refine wp_seq ?_
  refine md_11 w G a0 k0 ga gm g0 g1 g2 g3 g4 _ rfl ok R hRS g6 w8 _ ⟨_, 0, _, _, D, hS, GP.start G R⟩ a hf h20 _ ?_
  intro a w9 v20 hf h20 hI
  have h12 := md_12 w G a0 k0 ga gm g0 g1 g2 g3 g4 _ ok R g6 v20 w9 hI a hf h20 (tl 24 (Try.f10.body.getD .skip)) (MRet w G) ?_
  · rw [e20, rt_tl] at h12
    exact h12
  intro a w10 g8 g9 g10 hf h20 h28 hI
  rw [e24]
  refine wp_seq ?_
  refine md_15 w G a0 k0 ga gm g0 g1 g2 g3 R g8 g9 g10 v20 ok w10 hI a hf h20 h28 _ ?_
  intro a w11 rd v20 hf h20 hI
  obtain ⟨par, st, wh, B, nc, cn, cl, D, hX, hP, _⟩ := hI
  show Code.wp Try.prog (tl 25 (Try.f10.body.getD .skip)) _ a w11
  rw [e25]
  refine wp_seq ?_
  refine md_16 w G a0 k0 ga gm g0 g1 g2 g3 R v20 B nc cn cl ok hP w11 ⟨_, D, hX.xb.ds, hX.v7, hX.l7, fun i' j' _ _ h => by omega⟩ a hf.fe h20 _ ?_
  intro a w12 hf h20 hI
  exact md_17 w G a0 k0 ga gm g0 g1 g2 g3 R v20 B nc cn cl ok hRS hP w12 hI a hf h20
end Go.Proofs.Qxb6602148a
