/-
  What 'zzMeetsModel' is handed: the model and the view as they lie in memory; what 'zzTake' reads.
-/
import Derived.Test.Qxb6602148aMtf
import Derived.Test.Qxb6602148aMg
import Derived.Test.Qxb6602148aCg
attribute [local go_sem] Go.Proofs.Qxb6602148a.yTo Go.Proofs.Qxb6602148a.yUpon
namespace Go.Proofs.Qxb6602148a
open Go.RowKit
set_option linter.unusedVariables false
set_option linter.unusedSimpArgs false

theorem Grew.below {w w' : World} {D : Fam} (h : Grew Fam.nil w D w') : Below w.heap.size w w' := ⟨h.os, h.tape, h.output, h.size, fun k hk => h.block k hk (fun i e => by cases e)⟩
theorem Below.cell {B : Nat} {w w' : World} (h : Below B w w') {a : Addr} {v : Value} (hb : a.block < B) (hc : w.cell? a = some v) : w'.cell? a = some v := by
  rw [← hc]
  simp only [World.cell?, h.block a.block hb]
theorem Grew.of_below {w w' : World} (h : Below w.heap.size w w') : Grew Fam.nil w Fam.nil w' := ⟨h.os, h.tape, h.output, h.size, fun k hk _ => h.block k hk, fun i g hg => by cases hg⟩
theorem Grew.to_nil {w w' : World} {D : Fam} (h : Grew Fam.nil w D w') : Grew Fam.nil w Fam.nil w' := Grew.of_below h.below
theorem Grew.nils {w w' w'' : World} (h : Grew Fam.nil w Fam.nil w') (h' : Grew Fam.nil w' Fam.nil w'') : Grew Fam.nil w Fam.nil w'' := h.trans h'
theorem MRt.kept {w w1 w2 : World} {G : GR} {R : Nat → Nat → Bool} {nc : Nat} {cls : Nat → Nat} {g0 g1 g2 g3 : Nat} (h : MRt w G R nc cls g0 g1 g2 g3 w1) (hg : Grew Fam.nil w1 Fam.nil w2) : MRt w G R nc cls g0 g1 g2 g3 w2 := by
  refine ⟨?_, fun e he => hg.cell (h.c0 e he), fun e he => hg.cell (h.c1 e he), fun e he => hg.cell (h.c2 e he), ?_, h.ok, h.nw⟩
  · obtain ⟨D, hD⟩ := h.grew
    exact ⟨Fam.nil, hD.to_nil.trans hg⟩
  · obtain ⟨f, f1, f2⟩ := h.c3
    exact ⟨f, fun e he => hg.cell (f1 e he), f2⟩
/-- The model's cells. -/
structure MCl (G : GR) (R : Nat → Nat → Bool) (nc : Nat) (cls : Nat → Nat) (g0 g1 g2 g3 : Nat) (w' : World) : Prop where
  c0 : ∀ e, e < G.E → w'.cell? ⟨g0, e, none⟩ = some (.int .i64 ((G.sr e : Nat) : Int))
  c1 : ∀ e, e < G.E → w'.cell? ⟨g1, e, none⟩ = some (.int .i64 ((G.ds e : Nat) : Int))
  c2 : ∀ e, e < G.E → w'.cell? ⟨g2, e, none⟩ = some (.bool (G.ocb R e))
  c3 : ∃ f : Nat → Int, (∀ e, e < G.E → w'.cell? ⟨g3, e, none⟩ = some (.int .i64 (f e))) ∧ ∀ e, e < G.E → G.ocb R e = true → f e = ((cls e : Nat) : Int)
  ok : MOk G R nc cls
theorem MRt.cl {w w1 : World} {G : GR} {R : Nat → Nat → Bool} {nc : Nat} {cls : Nat → Nat} {g0 g1 g2 g3 : Nat} (h : MRt w G R nc cls g0 g1 g2 g3 w1) : MCl G R nc cls g0 g1 g2 g3 w1 := ⟨h.c0, h.c1, h.c2, h.c3, h.ok⟩
theorem MCl.kept {w1 w2 : World} {G : GR} {R : Nat → Nat → Bool} {nc : Nat} {cls : Nat → Nat} {g0 g1 g2 g3 : Nat} (h : MCl G R nc cls g0 g1 g2 g3 w1) (hg : ∀ g, g = g0 ∨ g = g1 ∨ g = g2 ∨ g = g3 → ∀ (j : Nat) (v : Value), w1.cell? ⟨g, j, none⟩ = some v → w2.cell? ⟨g, j, none⟩ = some v) : MCl G R nc cls g0 g1 g2 g3 w2 := by
  obtain ⟨f, f1, f2⟩ := h.c3
  exact ⟨fun e he => hg g0 (.inl rfl) e _ (h.c0 e he), fun e he => hg g1 (.inr (.inl rfl)) e _ (h.c1 e he), fun e he => hg g2 (.inr (.inr (.inl rfl))) e _ (h.c2 e he), ⟨f, fun e he => hg g3 (.inr (.inr (.inr rfl))) e _ (f1 e he), f2⟩, h.ok⟩
theorem Grew.cellM {w w' : World} {M D : Fam} (h : Grew M w D w') {g j : Nat} {v : Value} (hn : ∀ i, M.b i ≠ some g) (hc : w.cell? ⟨g, j, none⟩ = some v) : w'.cell? ⟨g, j, none⟩ = some v := by
  have hlt := World.block_lt_of_cell? w _ hc
  have := h.block g hlt hn
  rw [← hc]
  simp only [World.cell?, this]
/-- The view as it lies in memory, later. -/
theorem VOut.kept {w0 w1 w2 : World} {P : PS} {V : Fam} (h : VOut w0 P V w1) (hg : Grew Fam.nil w1 Fam.nil w2) : Rep KV w2 V ∧ VM V P := ⟨h.1.kept (fun i g hb => hg.block g (h.1.lt hb) (fun i e => by cases e)), h.2.2⟩

theorem Ints.rdi {K : Nat → TypeId × Nat} {w w' : World} {V : Fam} {i n g j : Nat} {f : Nat → Int} (h : Ints V i n f) (hR : Rep K w V) (hK : K i = (3, 1)) (hg : Grew Fam.nil w Fam.nil w') (hc : w'.cell? ⟨g, j, none⟩ = some (V.val i)) : Rdi w' g j n f := by
  refine ⟨(V.b i).map fun g => ⟨g, 0, none⟩, V.cap i, ?_, fun q hq => ?_⟩
  · rw [hc]; unfold Fam.val; rw [h.1]
  · obtain ⟨b, hb⟩ := hR.hasBlock (i := i) (by rw [h.1]; omega)
    refine ⟨b, by rw [hb]; rfl, ?_, hg.cell (h.cell' hR hb hK hq)⟩
    have := hR.le_cap i
    rw [h.1] at this
    exact this
set_option maxHeartbeats 1000000 in
theorem mtIn_of {w0 : World} {G : GR} {R : Nat → Nat → Bool} {nc : Nat} {cls : Nat → Nat} {g0 g1 g2 g3 : Nat} {P : PS} {V : Fam} (ok : G.Ok) (hm : MCl G R nc cls g0 g1 g2 g3 w0) (hR : Rep KV w0 V) (hV : VM V P) (hS : P.nS ≤ 200000) (hC : P.nC ≤ 200000) :
    MtIn ((w0.alloc (.cells #[.int .i64 (G.n : Int), .slice (some ⟨g0, 0, none⟩) G.E G.E, .slice (some ⟨g1, 0, none⟩) G.E G.E, .slice (some ⟨g2, 0, none⟩) G.E G.E, .slice (some ⟨g3, 0, none⟩) G.E G.E, .int .i64 (nc : Int)] 29)).alloc (.cells #[V.val 0, V.val 1, V.val 2, V.val 3, V.val 4, V.val 5, V.val 6] 35)) w0.heap.size (w0.heap.size + 1) (G.md R nc cls) P := by
  have b1 := heap_alloc2_old w0 (.cells #[.int .i64 (G.n : Int), .slice (some ⟨g0, 0, none⟩) G.E G.E, .slice (some ⟨g1, 0, none⟩) G.E G.E, .slice (some ⟨g2, 0, none⟩) G.E G.E, .slice (some ⟨g3, 0, none⟩) G.E G.E, .int .i64 (nc : Int)] 29) (.cells #[V.val 0, V.val 1, V.val 2, V.val 3, V.val 4, V.val 5, V.val 6] 35)
  have b2 := heap_alloc2_new w0 (.cells #[.int .i64 (G.n : Int), .slice (some ⟨g0, 0, none⟩) G.E G.E, .slice (some ⟨g1, 0, none⟩) G.E G.E, .slice (some ⟨g2, 0, none⟩) G.E G.E, .slice (some ⟨g3, 0, none⟩) G.E G.E, .int .i64 (nc : Int)] 29) (.cells #[V.val 0, V.val 1, V.val 2, V.val 3, V.val 4, V.val 5, V.val 6] 35)
  have hg : Grew Fam.nil w0 Fam.nil ((w0.alloc (.cells #[.int .i64 (G.n : Int), .slice (some ⟨g0, 0, none⟩) G.E G.E, .slice (some ⟨g1, 0, none⟩) G.E G.E, .slice (some ⟨g2, 0, none⟩) G.E G.E, .slice (some ⟨g3, 0, none⟩) G.E G.E, .int .i64 (nc : Int)] 29)).alloc (.cells #[V.val 0, V.val 1, V.val 2, V.val 3, V.val 4, V.val 5, V.val 6] 35)) := ((Grew.refl Fam.nil w0).alloc _).alloc _
  generalize ((w0.alloc (.cells #[.int .i64 (G.n : Int), .slice (some ⟨g0, 0, none⟩) G.E G.E, .slice (some ⟨g1, 0, none⟩) G.E G.E, .slice (some ⟨g2, 0, none⟩) G.E G.E, .slice (some ⟨g3, 0, none⟩) G.E G.E, .int .i64 (nc : Int)] 29)).alloc (.cells #[V.val 0, V.val 1, V.val 2, V.val 3, V.val 4, V.val 5, V.val 6] 35)) = wb at *
  have cm : ∀ (j : Nat) (v : Value), (#[.int .i64 (G.n : Int), .slice (some ⟨g0, 0, none⟩) G.E G.E, .slice (some ⟨g1, 0, none⟩) G.E G.E, .slice (some ⟨g2, 0, none⟩) G.E G.E, .slice (some ⟨g3, 0, none⟩) G.E G.E, .int .i64 (nc : Int)] : Array Value)[j]? = some v → wb.cell? ⟨w0.heap.size, j, none⟩ = some v := by
    intro j v hv; rw [cell_of_row wb _ j _ _ _ b1]; exact hv
  have cv : ∀ (j : Nat) (v : Value), (#[V.val 0, V.val 1, V.val 2, V.val 3, V.val 4, V.val 5, V.val 6] : Array Value)[j]? = some v → wb.cell? ⟨w0.heap.size + 1, j, none⟩ = some v := by
    intro j v hv; rw [cell_of_row wb _ j _ _ _ b2]; exact hv
  have rd : ∀ (j g : Nat) (f : Nat → Int), (#[.int .i64 (G.n : Int), .slice (some ⟨g0, 0, none⟩) G.E G.E, .slice (some ⟨g1, 0, none⟩) G.E G.E, .slice (some ⟨g2, 0, none⟩) G.E G.E, .slice (some ⟨g3, 0, none⟩) G.E G.E, .int .i64 (nc : Int)] : Array Value)[j]? = some (.slice (some ⟨g, 0, none⟩) G.E G.E) → (∀ e, e < G.E → w0.cell? ⟨g, e, none⟩ = some (.int .i64 (f e))) → Rdi wb w0.heap.size j G.E f := by
    intro j g f hj hc
    exact ⟨some ⟨g, 0, none⟩, G.E, cm j _ hj, fun e he => ⟨g, rfl, Nat.le_refl _, hg.cell (hc e he)⟩⟩
  obtain ⟨f3, f31, f32⟩ := hm.c3
  have lst : ∀ (i n : Nat) (o : Nat → Nat) (m : Nat → Nat) (f : Nat → Nat → Int), V.n i = n → (KV i = (26, 1)) → (∀ j, j < n → V.F i j = V.val (o j)) → (∀ j, j < n → Ints V (o j) (m j) (f j)) → (∀ j, KV (o j) = (3, 1)) → wb.cell? ⟨w0.heap.size + 1, i, none⟩ = some (V.val i) → Rdl wb (w0.heap.size + 1) i n m f := by
    intro i n o m f hn hK hF hI hKo hc
    refine ⟨(V.b i).map fun g => ⟨g, 0, none⟩, V.cap i, by rw [hc]; unfold Fam.val; rw [hn], fun j hj => ?_⟩
    obtain ⟨b, hb⟩ := hR.hasBlock (i := i) (by rw [hn]; omega)
    have hle := hR.le_cap i
    rw [hn] at hle
    refine ⟨b, by rw [hb]; rfl, hle, ?_⟩
    have hcell := hR.cell hb (j := j) (by rw [hn, hK]; show j < n * 1; omega)
    rw [hF j hj] at hcell
    exact (hI j hj).rdi hR (hKo j) hg (hg.cell hcell)
  refine ⟨cm 0 _ rfl, rd 1 g0 _ rfl hm.c0, rd 2 g1 _ rfl hm.c1, ⟨some ⟨g2, 0, none⟩, G.E, cm 3 _ rfl, fun e he => ⟨g2, rfl, Nat.le_refl _, hg.cell (hm.c2 e he)⟩⟩, ⟨f3, rd 4 g3 _ rfl f31, f32⟩, cm 5 _ rfl, hV.fr.rdi hR rfl hg (cv 0 _ rfl), hV.tto.rdi hR rfl hg (cv 1 _ rfl), hV.node.rdi hR rfl hg (cv 2 _ rfl), hV.comp.rdi hR rfl hg (cv 3 _ rfl), lst 4 P.nS (fun j => 7 + 2 * j) P.on P.out hV.n4 rfl hV.F4 hV.o4 KV_o (cv 4 _ rfl), lst 5 P.nC (fun j => 8 + 2 * j) P.mn P.mem hV.n5 rfl hV.F5 hV.m5 KV_m (cv 5 _ rfl), ?_, hV.edg.rdi hR rfl hg (cv 6 _ rfl), ok.E, ok.n, hS, hC, Nat.le_trans hm.ok.ncE ok.E⟩
  intro o k ho j hj
  have h5 := cv 5 _ rfl
  rw [h5] at ho
  injection ho with ho
  unfold Fam.val at ho
  injection ho with ho1 ho2 ho3
  obtain ⟨b, hb⟩ := hR.hasBlock (i := 5) (by rw [hV.n5]; omega)
  have hcell := hR.cell hb (j := j) (by rw [hV.n5]; show j < P.nC * 1; omega)
  rw [hV.F5 j hj] at hcell
  refine ⟨b, by rw [← ho1, hb]; rfl, (V.b (8 + 2 * j)).map fun g => ⟨g, 0, none⟩, V.cap (8 + 2 * j), ?_, ?_⟩
  · rw [hg.cell hcell]; unfold Fam.val; rw [(hV.m5 j hj).1]
  · rw [← hV.z5 j hj]; simp

/-- What 'zzTake' reads, if the partition meets some model. -/
theorem NDone.pin {w w' : World} {G : GR} {p : Nat} {R : Nat → Nat → Bool} {nc : Nat} {cls : Nat → Nat} (h : NDone w G p w') (ok : G.Ok) (hm : MOk G R nc cls) :
    ∃ M PF P L, PIn w' M PF p ∧ Meet (G.md R nc cls) PF ∧ NP G G.n 0 G.n P ∧ DF P 0 G.n (fun s => s) L PF ∧ Grew Fam.nil w M w' ∧ PF.nS ≤ 12288 ∧ PF.nC ≤ 4097 ∧ DEndP P 0 G.n (fun s => s) PF := by
  obtain ⟨M, P, PF, r, pm, gr, b11, hN, hE⟩ := h
  obtain ⟨hmt, L, hf⟩ := hN.meet ok hm hE
  have h1 := ok.n
  have h2 := ok.E
  have nE : PF.nE = G.E := by rw [hf.nE, hN.nE]
  have t1 := hf.tE
  have t2 := hf.nbE
  have nS : PF.nS ≤ 12288 := by
    rw [hf.nS, hN.nS]
    rw [hN.nE] at t1
    omega
  have nC : PF.nC ≤ 4097 := by
    rw [hf.nC, hN.nC]
    rw [hN.nE] at t2
    omega
  refine ⟨M, PF, P, L, ⟨r, pm, b11, ⟨by omega, by omega, by omega⟩, fun s hs => ?_, fun c hc => ?_⟩, hmt, hN, hf, gr, nS, nC, hE⟩
  · have := hmt.on_le hs
    have h3 : (G.md R nc cls).E = G.E := rfl
    omega
  · have := hmt.mn_le hc
    omega
end Go.Proofs.Qxb6602148a
