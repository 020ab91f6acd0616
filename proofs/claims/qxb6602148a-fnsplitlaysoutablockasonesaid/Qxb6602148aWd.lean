import Derived.Test.Qxb6602148aWb
attribute [local go_sem] Go.Proofs.Qxb6602148a.yTo Go.Proofs.Qxb6602148a.yUpon
namespace Go.Proofs.Qxb6602148a
open Go.RowKit
set_option linter.unusedVariables false
set_option linter.unusedSimpArgs false

set_option maxRecDepth 40000 in
set_option maxHeartbeats 8000000 in
/-- Down to a node that is new. -/
theorem walk_down (x : SC0) (gq kq : Nat) (y : Nat → Value) (v30 v31 : Value) (s : HS) (S : SS) (cq : Nat → Int) (c : Int) (M' : Fam) (wr wb : World) (g27 q e b z eb : Nat) (hS : Srch x s S cq c M' wr) (b27 : M'.b 27 = some g27) (hq : s.sc s.top = q) (hb0 : s.idx b = 0) (hbN : b < x.U.N) (hb : b < x.d.N) (hz : x.U.st b = z) (hst : x.d.st b = ((x.U.st b : Nat) : Int)) (hk : s.k ≤ 137438953472) (hv : s.vis ≤ 137438953473) (hm : s.m ≤ s.vis)
    (hi : HInv x.U (s.down e b)) (hR : Rep KP wb (M'.set 27 ((s.m - 1) * 3 + 2) (.int .i64 ((q : Int) + 1)))) (hG : Grew x.M x.w (M'.set 27 ((s.m - 1) * 3 + 2) (.int .i64 ((q : Int) + 1))) wb) (he : Entry (M'.set 27 ((s.m - 1) * 3 + 2) (.int .i64 ((q : Int) + 1))) wb eb b e) (Q : Exit → Act → World → Prop)
    (hQ : ∀ (a : Act) (w' : World) (M2 : Fam) (cq' : Nat → Int), FIC x gq kq a → a.tmps.getD 27 undef = M2.val 27 → a.tmps.getD 28 undef = .int .i64 ((s.vis + 1 : Nat) : Int) → a.tmps.getD 29 undef = M2.val 23 → Srch x (s.down e b) S cq' c M2 w' → Q .normal a w') :
    Code.wp Try.prog (DN (Try.f29.body.getD .skip)) Q (LIT y x gq kq (M'.val 27) (.int .i64 (s.vis : Int)) (M'.val 23) v30 v31 (.pointer (some ⟨eb, 0, none⟩))) wb := by
  have n23 : (M'.set 27 ((s.m - 1) * 3 + 2) (.int .i64 ((q : Int) + 1))).n 23 = s.k := hS.sr.me.1
  have v23 : M'.val 23 = (M'.set 27 ((s.m - 1) * 3 + 2) (.int .i64 ((q : Int) + 1))).val 23 := rfl
  have HR : Hid (Rep KP wb (M'.set 27 ((s.m - 1) * 3 + 2) (.int .i64 ((q : Int) + 1)))) := hR
  have HG : Hid (Grew x.M x.w (M'.set 27 ((s.m - 1) * 3 + 2) (.int .i64 ((q : Int) + 1))) wb) := hG
  have HE : Hid (Entry (M'.set 27 ((s.m - 1) * 3 + 2) (.int .i64 ((q : Int) + 1))) wb eb b e) := he
  have HQ : Hid (∀ (a : Act) (w' : World) (M2 : Fam) (cq' : Nat → Int), FIC x gq kq a → a.tmps.getD 27 undef = M2.val 27 → a.tmps.getD 28 undef = .int .i64 ((s.vis + 1 : Nat) : Int) → a.tmps.getD 29 undef = M2.val 23 → Srch x (s.down e b) S cq' c M2 w' → Q .normal a w') := hQ
  have HS : Hid (Srch x s S cq c M' wr) := hS
  have HI : Hid (HInv x.U (s.down e b)) := hi
  have HB : Hid (M'.b 27 = some g27) := b27
  have ce0 := he.c0
  have ce1 := he.c1
  have le := he.lt
  have Hb0 : Hid (s.idx b = 0) := hb0
  have Hz : Hid (x.U.st b = z) := hz
  have Hst : Hid (x.d.st b = (z : Int)) := by rw [← hz]; exact hst
  have Hq : Hid (s.sc s.top = q) := hq
  have N23 : Hid ((M'.set 27 ((s.m - 1) * 3 + 2) (.int .i64 ((q : Int) + 1))).n 23 = s.k) := n23
  obtain ⟨i3, hi3, hz30, hz31, hz32⟩ := info_parts Try.info3
  obtain ⟨i65, hi65, hz650, hz651, hz652⟩ := info_parts Try.info65
  unfold LIT LITv
  rw [v23]
  clear hR hG he hQ hS hi b27 hq n23 v23 hb0 hz hst
  simp only [DN, N58, B14, D13, tl, sL, bl, lp, cT, cF, Try.f29, Option.getD]
  go_wp2_with (at_builtin; refine wpList_append_row rfl (HR.out.alloc _) 23 (s.k) N23.out (.tmp 312) (.tmp 315) 26 rfl 3 i3 (.int .i64 0) 1 8 rfl Try.underlying26 hi3 hz30 hz31 hz32 rfl (by decide) rfl ⟨wb.heap.size, 0, none⟩ 1 [.int .i64 (e : Int)] rfl rfl (news1 _ _ _) (by simp [Value.oneCell']) (by omega) (by decide) ?_; intro g23 k23 w2 hR2 hG2; have HR2 : Hid (Rep KP w2 _) := hR2; have HG2 : Hid (Grew _ _ _ w2) := hG2; clear hR2 hG2)
  have b22 : Hid (((M'.set 27 ((s.m - 1) * 3 + 2) (.int .i64 ((q : Int) + 1))).put 23 (some g23) (s.k + 1) k23 (ext ((M'.set 27 ((s.m - 1) * 3 + 2) (.int .i64 ((q : Int) + 1))).F 23) (s.k * 1) [.int .i64 (e : Int)])).b 22 = some x.d.g22) := (put_b (by omega)).trans HS.out.sr.lw.1
  have b20 : Hid (((M'.set 27 ((s.m - 1) * 3 + 2) (.int .i64 ((q : Int) + 1))).put 23 (some g23) (s.k + 1) k23 (ext ((M'.set 27 ((s.m - 1) * 3 + 2) (.int .i64 ((q : Int) + 1))).F 23) (s.k * 1) [.int .i64 (e : Int)])).b 20 = some x.d.g20) := (put_b (by omega)).trans HS.out.sr.ix.1
  have b16 : Hid (((M'.set 27 ((s.m - 1) * 3 + 2) (.int .i64 ((q : Int) + 1))).put 23 (some g23) (s.k + 1) k23 (ext ((M'.set 27 ((s.m - 1) * 3 + 2) (.int .i64 ((q : Int) + 1))).F 23) (s.k * 1) [.int .i64 (e : Int)])).b 16 = some x.d.g16) := (put_b (by omega)).trans HS.out.sr.st.1
  have cl : w2.cell? ⟨x.d.g22, b, none⟩ = some (.int .i64 ((s.low b : Nat) : Int)) := ((HS.out.sr.lw.2.1.set_ne (by omega)).put_ne (by omega)).cell HR2.out b22.out rfl hb
  have ci : w2.cell? ⟨x.d.g20, b, none⟩ = some (.int .i64 ((s.idx b : Nat) : Int)) := ((HS.out.sr.ix.2.1.set_ne (by omega)).put_ne (by omega)).cell HR2.out b20.out rfl hb
  have cs : w2.cell? ⟨x.d.g16, b, none⟩ = some (.int .i64 (z : Int)) := by rw [← Hst.out]; exact ((HS.out.sr.st.2.1.set_ne (by omega)).put_ne (by omega)).cell HR2.out b16.out rfl (by omega)
  have fl := HR2.out.frozen b22.out b
  have fi := HR2.out.frozen b20.out b
  have ce : w2.cell? ⟨eb, 0, none⟩ = some (.int .i64 (b : Int)) := by
    rw [HG2.out.cell_out (by simp; omega) HE.out.out, cell_alloc le]; exact ce0
  have cf : w2.cell? ⟨eb, 1, none⟩ = some (.int .i64 (e : Int)) := by
    rw [HG2.out.cell_out (by simp; omega) HE.out.out, cell_alloc le]; exact ce1
  have d1 : eb ≠ x.d.g20 := fun h => HE.out.out 20 (by rw [h]; exact HS.out.sr.ix.1)
  have d2 : eb ≠ x.d.g22 := fun h => HE.out.out 22 (by rw [h]; exact HS.out.sr.lw.1)
  have d3 : x.d.g22 ≠ x.d.g20 := HS.out.sin.ne HS.out.sr.lw.1 HS.out.sr.ix.1 (by omega)
  have d4 : x.d.g16 ≠ x.d.g20 := HS.out.sin.ne HS.out.sr.st.1 HS.out.sr.ix.1 (by omega)
  have d5 : x.d.g16 ≠ x.d.g22 := HS.out.sin.ne HS.out.sr.st.1 HS.out.sr.lw.1 (by omega)
  have FK : Hid (∀ k w', k ≤ 1 → C2 w2.drew ((w2.setCell ⟨x.d.g20, b, none⟩ (.int .i64 ((s.vis : Int) + 1))).drew) (((w2.setCell ⟨x.d.g20, b, none⟩ (.int .i64 ((s.vis : Int) + 1))).setCell ⟨x.d.g22, b, none⟩ (.int .i64 ((s.vis : Int) + 1))).drew) k w' → w'.cell? ⟨eb, 0, none⟩ = some (.int .i64 (b : Int))) := by
    intro k w' hk hw
    match k, hk with
    | 0, _ =>
      have hw : w' = w2.drew := hw
      subst hw
      exact ce
    | 1, _ =>
      have hw : w' = ((w2.setCell ⟨x.d.g20, b, none⟩ (.int .i64 ((s.vis : Int) + 1))).drew) := hw
      subst hw
      show (w2.setCell ⟨x.d.g20, b, none⟩ (.int .i64 ((s.vis : Int) + 1))).cell? _ = _
      rw [cell_ne d1]
      exact ce
  refine wp_region_stage (C2 w2.drew ((w2.setCell ⟨x.d.g20, b, none⟩ (.int .i64 ((s.vis : Int) + 1))).drew) (((w2.setCell ⟨x.d.g20, b, none⟩ (.int .i64 ((s.vis : Int) + 1))).setCell ⟨x.d.g22, b, none⟩ (.int .i64 ((s.vis : Int) + 1))).drew)) [9, 11] (fun i => if i = 3 ∨ i = 4 ∨ i = 5 ∨ i = 7 ∨ i = 10 then 1 else 0) (by kernel_rfl) (by kernel_rfl) (rfl) ?_
  refine wpStage_read rfl rfl ?_
  apply Exists.intro
  refine ⟨fun k w' hk hw => ?_, ?_⟩
  · go_simp
    first | rfl | exact ⟨rfl, hw⟩
  go_simp
  refine wpStage_read rfl rfl ?_
  apply Exists.intro
  refine ⟨fun k w' hk hw => ?_, ?_⟩
  · go_simp
    first | rfl | exact ⟨rfl, hw⟩
  go_simp
  refine wpStage_read rfl rfl ?_
  apply Exists.intro
  refine ⟨fun k w' hk hw => ?_, ?_⟩
  · have y1 := FK.out k w' (Nat.le_succ_of_le hk) hw
    go_simp
    first | rfl | exact ⟨rfl, hw⟩
  go_simp
  refine wpStage_read rfl rfl ?_
  apply Exists.intro
  refine ⟨fun k w' hk hw => ?_, ?_⟩
  · go_simp
    first | rfl | exact ⟨rfl, hw⟩
  go_simp
  refine wpStage_read rfl rfl ?_
  apply Exists.intro
  refine ⟨fun k w' hk hw => ?_, ?_⟩
  · go_simp
    first | rfl | exact ⟨rfl, hw⟩
  go_simp
  refine wpStage_read rfl rfl ?_
  apply Exists.intro
  refine ⟨fun k w' hk hw => ?_, ?_⟩
  · have y1 := FK.out k w' hk hw
    go_simp
    first | rfl | exact ⟨rfl, hw⟩
  go_simp
  refine wpStage_read rfl rfl ?_
  apply Exists.intro
  refine ⟨fun k w' hk hw => ?_, ?_⟩
  · go_simp
    first | rfl | exact ⟨rfl, hw⟩
  go_simp
  refine wpStage_read rfl rfl ?_
  apply Exists.intro
  refine ⟨fun k w' hk hw => ?_, ?_⟩
  · go_simp
    first | rfl | exact ⟨rfl, hw⟩
  go_simp
  refine wpStage_read rfl rfl ?_
  apply Exists.intro
  refine ⟨fun k w' hk hw => ?_, ?_⟩
  · go_simp
    first | rfl | exact ⟨rfl, hw⟩
  go_simp
  refine wpStage_move rfl rfl ?_
  apply Exists.intro
  refine ⟨fun w' hw => ?_, ?_⟩
  · have hw : w' = w2.drew := hw
    subst hw
    go_simp
    first | rfl | exact ⟨rfl, rfl⟩
  go_simp
  refine wpStage_read rfl rfl ?_
  apply Exists.intro
  refine ⟨fun k w' hk hw => ?_, ?_⟩
  · go_simp
    first | rfl | exact ⟨rfl, hw⟩
  go_simp
  refine wpStage_move rfl rfl ?_
  apply Exists.intro
  refine ⟨fun w' hw => ?_, ?_⟩
  · have hw : w' = ((w2.setCell ⟨x.d.g20, b, none⟩ (.int .i64 ((s.vis : Int) + 1))).drew) := hw
    subst hw
    go_simp
    first | rfl | exact ⟨rfl, rfl⟩
  go_simp
  intro w' hw
  have hw : w' = (((w2.setCell ⟨x.d.g20, b, none⟩ (.int .i64 ((s.vis : Int) + 1))).setCell ⟨x.d.g22, b, none⟩ (.int .i64 ((s.vis : Int) + 1))).drew) := hw
  subst hw
  clear FK hw
  have R3 : Rep KP (((w2.setCell ⟨x.d.g20, b, none⟩ (.int .i64 ((s.vis : Int) + 1))).setCell ⟨x.d.g22, b, none⟩ (.int .i64 ((s.vis : Int) + 1))).drew) ((((M'.set 27 ((s.m - 1) * 3 + 2) (.int .i64 ((q : Int) + 1))).put 23 (some g23) (s.k + 1) k23 (ext ((M'.set 27 ((s.m - 1) * 3 + 2) (.int .i64 ((q : Int) + 1))).F 23) (s.k * 1) [.int .i64 (e : Int)])).set 20 b (.int .i64 ((s.vis : Int) + 1))).set 22 b (.int .i64 ((s.vis : Int) + 1))) := ((HR2.out.set b20.out b (.int .i64 ((s.vis : Int) + 1))).set (i := 22) b22.out b (.int .i64 ((s.vis : Int) + 1))).drew
  have G3 : Grew x.M x.w ((((M'.set 27 ((s.m - 1) * 3 + 2) (.int .i64 ((q : Int) + 1))).put 23 (some g23) (s.k + 1) k23 (ext ((M'.set 27 ((s.m - 1) * 3 + 2) (.int .i64 ((q : Int) + 1))).F 23) (s.k * 1) [.int .i64 (e : Int)])).set 20 b (.int .i64 ((s.vis : Int) + 1))).set 22 b (.int .i64 ((s.vis : Int) + 1))) (((w2.setCell ⟨x.d.g20, b, none⟩ (.int .i64 ((s.vis : Int) + 1))).setCell ⟨x.d.g22, b, none⟩ (.int .i64 ((s.vis : Int) + 1))).drew) := ((((HG.out.alloc _).trans HG2.out).set ⟨20, b20.out⟩ _ _ _ _).set ⟨22, b22.out⟩ _ _ _ _).drew
  have n27 : ((((M'.set 27 ((s.m - 1) * 3 + 2) (.int .i64 ((q : Int) + 1))).put 23 (some g23) (s.k + 1) k23 (ext ((M'.set 27 ((s.m - 1) * 3 + 2) (.int .i64 ((q : Int) + 1))).F 23) (s.k * 1) [.int .i64 (e : Int)])).set 20 b (.int .i64 ((s.vis : Int) + 1))).set 22 b (.int .i64 ((s.vis : Int) + 1))).n 27 = s.m := HS.out.sr.cl.1
  have v27e : M'.val 27 = ((((M'.set 27 ((s.m - 1) * 3 + 2) (.int .i64 ((q : Int) + 1))).put 23 (some g23) (s.k + 1) k23 (ext ((M'.set 27 ((s.m - 1) * 3 + 2) (.int .i64 ((q : Int) + 1))).F 23) (s.k * 1) [.int .i64 (e : Int)])).set 20 b (.int .i64 ((s.vis : Int) + 1))).set 22 b (.int .i64 ((s.vis : Int) + 1))).val 27 := rfl
  obtain ⟨gc, kc, w4, hr, hRc, hGc⟩ := run_append_row (P := Try.prog) ((R3.drew).alloc (.cells #[.int .i64 (b : Int), .int .i64 (e : Int), .int .i64 (z : Int)] 65)) 27 66 66 65 i65 _ 3 24 rfl Try.underlying66 hi65 hz650 hz651 hz652 rfl (by decide) ⟨w2.heap.size, 0, none⟩ 1 [.int .i64 (b : Int), .int .i64 (e : Int), .int .i64 (z : Int)] rfl (newsN _ [.int .i64 (b : Int), .int .i64 (e : Int), .int .i64 (z : Int)] _ _ (by simp [World.setCell])) (by simp [Value.oneCell']) (by rw [n27]; omega) (by decide)
  have HRN : Hid ((Builtin.append_ #[66, 66] 66 #[M'.val 27, .slice (some ⟨w2.heap.size, 0, none⟩) 1 1]).run Try.prog ((((w2.setCell ⟨x.d.g20, b, none⟩ (.int .i64 ((s.vis : Int) + 1))).setCell ⟨x.d.g22, b, none⟩ (.int .i64 ((s.vis : Int) + 1))).alloc (.cells #[.int .i64 (b : Int), .int .i64 (e : Int), .int .i64 (z : Int)] 65)).drew.drew) = .ok (.slice (some ⟨gc, 0, none⟩) (s.m + 1) kc) w4) := by
    rw [v27e, ← n27]; exact hr
  have fin : Hid (∃ M2 cq', M2.val 23 = .slice (some ⟨g23, 0, none⟩) (s.k + 1) k23 ∧ M2.val 27 = .slice (some ⟨gc, 0, none⟩) (s.m + 1) kc ∧ Srch x (s.down e b) S cq' c M2 w4) := by
    have h1 := HR2.out
    have h2 := HG2.out
    rw [← N23.out] at h1 h2
    rw [← N23.out] at hRc hGc G3
    refine ⟨_, _, ?_, ?_, HS.out.down HB.out Hq.out hbN Hb0.out Hz.out HI.out (HG.out.alloc _) rfl h1 h2 rfl (G3.drew.alloc _) hRc hGc⟩
    · rw [put_val (by omega), set_val, set_val, put_vals, N23.out]; rfl
    · rw [put_vals]
      show Value.slice (some ⟨gc, 0, none⟩) (((((M'.set 27 ((s.m - 1) * 3 + 2) (.int .i64 ((q : Int) + 1))).put 23 (some g23) (s.k + 1) k23 (ext ((M'.set 27 ((s.m - 1) * 3 + 2) (.int .i64 ((q : Int) + 1))).F 23) (s.k * 1) [.int .i64 (e : Int)])).set 20 b (.int .i64 ((s.vis : Int) + 1))).set 22 b (.int .i64 ((s.vis : Int) + 1))).n 27 + 1) kc = _
      rw [n27]
  clear R3 G3 hr hRc hGc n27 v27e HR HG HE HI HB HR2 HG2 N23 b22 b20 b16 ce0 ce1 le
  clear HS Hb0 Hz Hst Hq
  generalize M'.val 27 = vc at *
  have hbi : (b : Int) < (x.d.N : Int) + 1 := by omega
  go_wp2
  have FL : Hid (∀ k w', k ≤ 0 → C2 (((w2.setCell ⟨x.d.g20, b, none⟩ (.int .i64 ((s.vis : Int) + 1))).setCell ⟨x.d.g22, b, none⟩ (.int .i64 ((s.vis : Int) + 1))).drew.drew) ((((w2.setCell ⟨x.d.g20, b, none⟩ (.int .i64 ((s.vis : Int) + 1))).setCell ⟨x.d.g22, b, none⟩ (.int .i64 ((s.vis : Int) + 1))).alloc (.cells #[.int .i64 (b : Int), .int .i64 (e : Int), .int .i64 (z : Int)] 65)).drew.drew) w4 k w' → w' = (((w2.setCell ⟨x.d.g20, b, none⟩ (.int .i64 ((s.vis : Int) + 1))).setCell ⟨x.d.g22, b, none⟩ (.int .i64 ((s.vis : Int) + 1))).drew.drew)) := by
    intro k w' hk hw
    have hk : k = 0 := by omega
    subst hk
    exact hw
  refine wp_region_stage (C2 (((w2.setCell ⟨x.d.g20, b, none⟩ (.int .i64 ((s.vis : Int) + 1))).setCell ⟨x.d.g22, b, none⟩ (.int .i64 ((s.vis : Int) + 1))).drew.drew) ((((w2.setCell ⟨x.d.g20, b, none⟩ (.int .i64 ((s.vis : Int) + 1))).setCell ⟨x.d.g22, b, none⟩ (.int .i64 ((s.vis : Int) + 1))).alloc (.cells #[.int .i64 (b : Int), .int .i64 (e : Int), .int .i64 (z : Int)] 65)).drew.drew) w4) [11, 12] (fun i => if i = 0 then 1 else if i < 11 then 0 else 2) (by kernel_rfl) (by kernel_rfl) (rfl) ?_
  refine wpStage_read rfl rfl ?_
  apply Exists.intro
  refine ⟨fun k w' hk hw => ?_, ?_⟩
  · go_simp
    first | rfl | exact ⟨rfl, hw⟩
  go_simp
  refine wpStage_read rfl rfl ?_
  apply Exists.intro
  refine ⟨fun k w' hk hw => ?_, ?_⟩
  · go_simp
    first | rfl | exact ⟨rfl, hw⟩
  go_simp
  refine wpStage_read rfl rfl ?_
  apply Exists.intro
  refine ⟨fun k w' hk hw => ?_, ?_⟩
  · have hw0 := FL.out k w' hk hw
    subst hw0
    go_simp
    first | rfl | exact ⟨rfl, hw⟩
  go_simp
  refine wpStage_read rfl rfl ?_
  apply Exists.intro
  refine ⟨fun k w' hk hw => ?_, ?_⟩
  · go_simp
    first | rfl | exact ⟨rfl, hw⟩
  go_simp
  refine wpStage_read rfl rfl ?_
  apply Exists.intro
  refine ⟨fun k w' hk hw => ?_, ?_⟩
  · have hw0 := FL.out k w' hk hw
    subst hw0
    go_simp
    first | rfl | exact ⟨rfl, hw⟩
  go_simp
  refine wpStage_read rfl rfl ?_
  apply Exists.intro
  refine ⟨fun k w' hk hw => ?_, ?_⟩
  · go_simp
    first | rfl | exact ⟨rfl, hw⟩
  go_simp
  refine wpStage_read rfl rfl ?_
  apply Exists.intro
  refine ⟨fun k w' hk hw => ?_, ?_⟩
  · go_simp
    first | rfl | exact ⟨rfl, hw⟩
  go_simp
  refine wpStage_read rfl rfl ?_
  apply Exists.intro
  refine ⟨fun k w' hk hw => ?_, ?_⟩
  · have hw0 := FL.out k w' hk hw
    subst hw0
    go_simp
    first | rfl | exact ⟨rfl, hw⟩
  go_simp
  refine wpStage_read rfl rfl ?_
  apply Exists.intro
  refine ⟨fun k w' hk hw => ?_, ?_⟩
  · go_simp
    first | rfl | exact ⟨rfl, hw⟩
  go_simp
  refine wpStage_read rfl rfl ?_
  apply Exists.intro
  refine ⟨fun k w' hk hw => ?_, ?_⟩
  · have hw0 := FL.out k w' hk hw
    subst hw0
    go_simp
    first | rfl | exact ⟨rfl, hw⟩
  go_simp
  refine wpStage_read rfl rfl ?_
  apply Exists.intro
  refine ⟨fun k w' hk hw => ?_, ?_⟩
  · go_simp
    first | rfl | exact ⟨rfl, hw⟩
  go_simp
  refine wpStage_move rfl rfl ?_
  apply Exists.intro
  refine ⟨fun w' hw => ?_, ?_⟩
  · have hw : w' = (((w2.setCell ⟨x.d.g20, b, none⟩ (.int .i64 ((s.vis : Int) + 1))).setCell ⟨x.d.g22, b, none⟩ (.int .i64 ((s.vis : Int) + 1))).drew.drew) := hw
    subst hw
    go_simp
    first | rfl | exact ⟨rfl, rfl⟩
  go_simp
  refine wpStage_move rfl rfl ?_
  apply Exists.intro
  refine ⟨fun w' hw => ?_, ?_⟩
  · have hw : w' = ((((w2.setCell ⟨x.d.g20, b, none⟩ (.int .i64 ((s.vis : Int) + 1))).setCell ⟨x.d.g22, b, none⟩ (.int .i64 ((s.vis : Int) + 1))).alloc (.cells #[.int .i64 (b : Int), .int .i64 (e : Int), .int .i64 (z : Int)] 65)).drew.drew) := hw
    subst hw
    exact yTo_append (.tmp 329) (.tmp 340) 66 rfl (by simp [Act.eval]) (by simp [Act.eval]) HRN.out rfl
  go_simp
  refine wpStage_read rfl rfl ?_
  apply Exists.intro
  refine ⟨fun k w' hk hw => ?_, ?_⟩
  · go_simp
    first | rfl | exact ⟨rfl, hw⟩
  go_simp
  intro w' hw
  have hw : w' = w4 := hw
  subst hw
  obtain ⟨M2, cq', e23, e27, hSr⟩ := fin.out
  exact HQ.out _ _ M2 cq' ⟨by kernel_rfl, by kernel_rfl, by kernel_rfl, by kernel_rfl, by kernel_rfl, by kernel_rfl, by kernel_rfl, by kernel_rfl, by kernel_rfl, by kernel_rfl, by kernel_rfl, by kernel_rfl, by kernel_rfl⟩ (Eq.trans (by kernel_rfl) e27.symm) (by kernel_rfl) (Eq.trans (by kernel_rfl) e23.symm) hSr
end Go.Proofs.Qxb6602148a
