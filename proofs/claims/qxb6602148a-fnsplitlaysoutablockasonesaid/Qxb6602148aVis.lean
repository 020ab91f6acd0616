/-
  'divide': the memory as its search has it; 'visit'.
-/
import Derived.Test.Qxb6602148aSt
attribute [local go_sem] Go.Proofs.Qxb6602148a.yTo Go.Proofs.Qxb6602148a.yUpon
namespace Go.Proofs.Qxb6602148a
open Go.RowKit
set_option linter.unusedVariables false
set_option linter.unusedSimpArgs false

theorem Try.info59 : (Try.prog.info? 59).map (fun i => (i.zero, i.size, i.bytes)) = some (some (.agg #[.int .i64 0, .int .i64 0]), 2, 16) := by kernel_rfl
theorem Try.underlying51 : Try.prog.underlying 51 = some (.slice 59) := by kernel_rfl

/-- The rows that 'divide' lays for itself, and those of 'split'. -/
def XD (i : Nat) : Prop := (12 ≤ i ∧ i ≤ 25) ∨ i = 27 ∨ (31 ≤ i ∧ i ≤ 33) ∨ (62 ≤ i ∧ i % 3 = 2)
def X14 (i : Nat) : Prop := i = 14

structure DIn (w : World) (M : Fam) (p q13 q14 : Nat) (vis : Int) (wr : World) (M' : Fam) (P' : PS) : Prop where
  rep : Rep KP wr M'
  pm : PM M' P'
  grew : Grew M w M' wr
  loc : LocX XD M M'
  b11 : M'.b 11 = some p
  b13 : M'.b 13 = some q13
  n13 : M'.n 13 = 1
  f13 : M'.F 13 0 = .pointer (some ⟨p, 0, none⟩)
  b14 : M'.b 14 = some q14
  i14 : Ints M' 14 1 (fun _ => vis)

section
variable {w wr w1 w2 : World} {M M' : Fam} {p q13 q14 : Nat} {vis : Int} {P' P'' : PS}

theorem DIn.drew (h : DIn w M p q13 q14 vis wr M' P') : DIn w M p q13 q14 vis wr.drew M' P' := ⟨h.rep.drew, h.pm, h.grew.drew, h.loc, h.b11, h.b13, h.n13, h.f13, h.b14, h.i14⟩
theorem DIn.drewN (h : DIn w M p q13 q14 vis wr M' P') (n : Nat) : DIn w M p q13 q14 vis (wr.drewN n) M' P' := ⟨h.rep.drewN n, h.pm, h.grew.drewN n, h.loc, h.b11, h.b13, h.n13, h.f13, h.b14, h.i14⟩
theorem DIn.alloc (h : DIn w M p q13 q14 vis wr M' P') (o : Obj) : DIn w M p q13 q14 vis (wr.alloc o) M' P' := ⟨h.rep.alloc o, h.pm, h.grew.alloc o, h.loc, h.b11, h.b13, h.n13, h.f13, h.b14, h.i14⟩
theorem DIn.box (h : DIn w M p q13 q14 vis wr M' P') : wr.cell? ⟨q13, 0, none⟩ = some (.pointer (some ⟨p, 0, none⟩)) := (h.rep.cell h.b13 (by rw [h.n13]; decide)).trans (congrArg some h.f13)
theorem DIn.vbox (h : DIn w M p q13 q14 vis wr M' P') : wr.cell? ⟨q14, 0, none⟩ = some (.int .i64 vis) := h.i14.cell h.rep h.b14 rfl (by omega)
theorem DIn.ne (h : DIn w M p q13 q14 vis wr M' P') {i j a b : Nat} (ha : M'.b i = some a) (hb : M'.b j = some b) (hij : i ≠ j) : a ≠ b := fun e => hij (h.rep.inj i j a ha (by rw [e]; exact hb))
theorem DIn.slot (h : DIn w M p q13 q14 vis wr M' P') {g3 s k : Nat} (b3 : M'.b 3 = some g3) (hs : s < P'.nS) (hk : k < 7) {v : Value} (hv : M'.F 3 (s * 7 + k) = v) : wr.cell? ⟨g3, s * 7 + k, none⟩ = some v := by
  rw [h.rep.cell b3 (by rw [h.pm.nS]; show s * 7 + k < P'.nS * 7; omega), hv]
/-- A write into the partition. -/
theorem DIn.setp (h : DIn w M p q13 q14 vis wr M' P') {i g j : Nat} {v : Value} (hb : M'.b i = some g) (hi : i < 12) (hp : PM (M'.set i j v) P'') : DIn w M p q13 q14 vis (wr.setCell ⟨g, j, none⟩ v) (M'.set i j v) P'' :=
  ⟨h.rep.set hb j v, hp, h.grew.set ⟨i, hb⟩ _ _ _ _, h.loc.set (.inl (by unfold Own; omega)), h.b11, h.b13, h.n13, by rw [set_F _ (by omega)]; exact h.f13, h.b14, h.i14.set_ne (by omega)⟩
theorem DIn.setvis (h : DIn w M p q13 q14 vis wr M' P') (v : Int) : DIn w M p q13 q14 v (wr.setCell ⟨q14, 0, none⟩ (.int .i64 v)) (M'.set 14 0 (.int .i64 v)) P' :=
  ⟨h.rep.set h.b14 0 _, h.pm.set_local (by omega) 0 _, h.grew.set ⟨14, h.b14⟩ _ _ _ _, h.loc.set (.inr (by unfold XD; omega)), h.b11, h.b13, h.n13, by rw [set_F _ (by omega)]; exact h.f13, h.b14, ⟨h.i14.1, fun j hj => by
    have : j = 0 := by omega
    subst this
    exact set_Fs⟩⟩
/-- A list of the partition has grown: its header is written. -/
theorem DIn.pushp (h : DIn w M p q13 q14 vis wr M' P') {i n k g : Nat} {F : Nat → Value} (hi : i < 11) (h12 : i ≠ 1 ∧ i ≠ 2) (hw : Grew M w M' w1) (hR : Rep KP w2 (M'.put i (some g) n k F)) (hG : Grew M' w1 (M'.put i (some g) n k F) w2) {v : Value} (hp : PM ((M'.put i (some g) n k F).set 11 i v) P'') :
    DIn w M p q13 q14 vis (w2.setCell ⟨p, i, none⟩ v) ((M'.put i (some g) n k F).set 11 i v) P'' := by
  have b11 : (M'.put i (some g) n k F).b 11 = some p := (put_b (by omega)).trans h.b11
  refine ⟨hR.set b11 i _, hp, (hw.trans hG).set ⟨11, b11⟩ _ _ _ _, (h.loc.put (.inl (by unfold Own; omega)) (by omega)).set (.inl (by unfold Own; omega)), b11, ?_, ?_, ?_, ?_, ?_⟩
  · show (M'.put i (some g) n k F).b 13 = _; rw [put_b (by omega)]; exact h.b13
  · show (M'.put i (some g) n k F).n 13 = _; rw [put_n (by omega)]; exact h.n13
  · rw [set_F _ (by omega), put_F (by omega)]; exact h.f13
  · show (M'.put i (some g) n k F).b 14 = _; rw [put_b (by omega)]; exact h.b14
  · exact (h.i14.put_ne (by omega)).set_ne (by omega)
end

def PS.visit (P : PS) (v : Nat) (x : Int) : PS :=
  { P with idx := upd P.idx v x, low := upd P.low v x, nK := P.nK + 1, stk := upd P.stk P.nK v, nQ := P.nQ + 1, cq := upd (upd P.cq (2 * P.nQ) v) (2 * P.nQ + 1) 0 }

set_option maxHeartbeats 8000000 in
theorem visit_calls {w wr : World} {M M' : Fam} {P' : PS} {p q13 q14 v : Nat} {vis : Int} (h : DIn w M p q13 q14 vis wr M' P') (hv : v < P'.nS) (hK : P'.nK < 100000000) (hQ : P'.nQ < 100000000) (hvis : 0 ≤ vis ∧ vis < 100000000) :
    Calls Try.prog 33 #[.int .i64 (v : Int), .pointer (some ⟨q14, 0, none⟩), .pointer (some ⟨q13, 0, none⟩)] wr fun e w' => e = .returned (.tuple #[]) ∧ ∃ M'', DIn w M p q13 q14 (vis + 1) w' M'' (P'.visit v (vis + 1)) ∧ LocX X14 M' M'' := by
  obtain ⟨i3, hi3, hz30, hz31, hz32⟩ := info_parts Try.info3
  obtain ⟨i59, hi59, hz590, hz591, hz592⟩ := info_parts Try.info59
  have c14 := h.vbox
  have f14 := h.rep.frozen h.b14 0
  obtain ⟨v0, v1⟩ := hvis
  have D1 : Hid (∃ M1, DIn w M p q13 q14 (vis + 1) (wr.setCell ⟨q14, 0, none⟩ (.int .i64 (vis + 1))) M1 P' ∧ LocX X14 M' M1) := ⟨_, h.setvis (vis + 1), (LocX.refl X14 M').set (.inr rfl)⟩
  clear h
  go_enter Try.func33, Try.ntmps33
  go_wp2
  obtain ⟨M1, hD, hL⟩ := D1.out
  clear D1 c14 f14
  generalize wr.setCell ⟨q14, 0, none⟩ (.int .i64 (vis + 1)) = wb at *
  obtain ⟨g3, b3⟩ := hD.rep.hasBlock (i := 3) (by rw [hD.pm.nS]; exact Nat.lt_of_le_of_lt (Nat.zero_le _) hv)
  have x1 := hD.box
  have x2 := hD.pm.hdr_some hD.rep hD.b11 (show 3 < 11 by omega) b3
  have x3 := hD.vbox
  have x4 := hD.slot b3 hv (show 3 < 7 by omega) rfl
  have x5 := hD.slot b3 hv (show 4 < 7 by omega) rfl
  have x6 := hD.rep.frozen b3 (v * 7 + 3)
  have x7 := hD.rep.frozen b3 (v * 7 + 4)
  have d1 : p ≠ g3 := hD.ne hD.b11 b3 (by omega)
  have d2 : q13 ≠ g3 := hD.ne hD.b13 b3 (by omega)
  have d3 : q14 ≠ g3 := hD.ne hD.b14 b3 (by omega)
  have ln : v < M1.n 3 := by rw [hD.pm.nS]; exact hv
  have lc3 := hD.rep.le_cap 3
  have D2 : Hid (∃ M2, DIn w M p q13 q14 (vis + 1) ((wb.drew.setCell ⟨g3, v * 7 + 3, none⟩ (.int .i64 (vis + 1))).setCell ⟨g3, v * 7 + 4, none⟩ (.int .i64 (vis + 1))) M2 { P' with idx := upd P'.idx v (vis + 1), low := upd P'.low v (vis + 1) } ∧ LocX X14 M' M2) :=
    ⟨_, (hD.drew.setp b3 (by omega) (hD.pm.set_idx v (vis + 1))).setp (i := 3) b3 (by omega) ((hD.pm.set_idx v (vis + 1)).set_low v (vis + 1)), (hL.set (.inl (by unfold Own; omega))).set (.inl (by unfold Own; omega))⟩
  clear hD hL b3
  generalize M1.n 3 = n3 at *
  generalize M1.cap 3 = k3 at *
  generalize M1.F 3 (v * 7 + 3) = vx at *
  generalize M1.F 3 (v * 7 + 4) = vy at *
  have FK : Hid (∀ k w', C2 wb.drew (wb.drew.setCell ⟨g3, v * 7 + 3, none⟩ (.int .i64 (vis + 1))) ((wb.drew.setCell ⟨g3, v * 7 + 3, none⟩ (.int .i64 (vis + 1))).setCell ⟨g3, v * 7 + 4, none⟩ (.int .i64 (vis + 1))) k w' → w'.cell? ⟨q13, 0, none⟩ = some (.pointer (some ⟨p, 0, none⟩)) ∧ w'.cell? ⟨p, 3, none⟩ = some (.slice (some ⟨g3, 0, none⟩) n3 k3) ∧ w'.cell? ⟨q14, 0, none⟩ = some (.int .i64 (vis + 1))) := by
    refine C2.all ⟨x1, x2, x3⟩ ?_ ?_
    · rw [cell_ne d2, cell_ne d1, cell_ne d3]; exact ⟨x1, x2, x3⟩
    · rw [cell_ne d2, cell_ne d1, cell_ne d3, cell_ne d2, cell_ne d1, cell_ne d3]; exact ⟨x1, x2, x3⟩
  refine wp_region_stage (C2 wb.drew (wb.drew.setCell ⟨g3, v * 7 + 3, none⟩ (.int .i64 (vis + 1))) ((wb.drew.setCell ⟨g3, v * 7 + 3, none⟩ (.int .i64 (vis + 1))).setCell ⟨g3, v * 7 + 4, none⟩ (.int .i64 (vis + 1)))) [14, 17] (fun i => 2) (by kernel_rfl) (by kernel_rfl) (rfl) ?_
  refine wpStage_read rfl rfl ?_
  apply Exists.intro
  refine ⟨fun k w' hk hw => ?_, ?_⟩
  · obtain ⟨y1, y2, y3⟩ := FK.out k w' hw
    go_simp
    first | rfl | exact ⟨rfl, hw⟩
  go_simp
  refine wpStage_read rfl rfl ?_
  apply Exists.intro
  refine ⟨fun k w' hk hw => ?_, ?_⟩
  · go_simp
    first | rfl | exact ⟨rfl, hw⟩
  go_simp
  refine wpStage_read rfl rfl ?_
  apply Exists.intro
  refine ⟨fun k w' hk hw => ?_, ?_⟩
  · go_simp
    first | rfl | exact ⟨rfl, hw⟩
  go_simp
  refine wpStage_read rfl rfl ?_
  apply Exists.intro
  refine ⟨fun k w' hk hw => ?_, ?_⟩
  · obtain ⟨y1, y2, y3⟩ := FK.out k w' hw
    go_simp
    first | rfl | exact ⟨rfl, hw⟩
  go_simp
  refine wpStage_read rfl rfl ?_
  apply Exists.intro
  refine ⟨fun k w' hk hw => ?_, ?_⟩
  · go_simp
    first | rfl | exact ⟨rfl, hw⟩
  go_simp
  refine wpStage_read rfl rfl ?_
  apply Exists.intro
  refine ⟨fun k w' hk hw => ?_, ?_⟩
  · obtain ⟨y1, y2, y3⟩ := FK.out k w' hw
    go_simp
    first | rfl | exact ⟨rfl, hw⟩
  go_simp
  refine wpStage_read rfl rfl ?_
  apply Exists.intro
  refine ⟨fun k w' hk hw => ?_, ?_⟩
  · go_simp
    first | rfl | exact ⟨rfl, hw⟩
  go_simp
  refine wpStage_read rfl rfl ?_
  apply Exists.intro
  refine ⟨fun k w' hk hw => ?_, ?_⟩
  · go_simp
    first | rfl | exact ⟨rfl, hw⟩
  go_simp
  refine wpStage_read rfl rfl ?_
  apply Exists.intro
  refine ⟨fun k w' hk hw => ?_, ?_⟩
  · obtain ⟨y1, y2, y3⟩ := FK.out k w' hw
    go_simp
    first | rfl | exact ⟨rfl, hw⟩
  go_simp
  refine wpStage_read rfl rfl ?_
  apply Exists.intro
  refine ⟨fun k w' hk hw => ?_, ?_⟩
  · go_simp
    first | rfl | exact ⟨rfl, hw⟩
  go_simp
  refine wpStage_read rfl rfl ?_
  apply Exists.intro
  refine ⟨fun k w' hk hw => ?_, ?_⟩
  · obtain ⟨y1, y2, y3⟩ := FK.out k w' hw
    go_simp
    first | rfl | exact ⟨rfl, hw⟩
  go_simp
  refine wpStage_read rfl rfl ?_
  apply Exists.intro
  refine ⟨fun k w' hk hw => ?_, ?_⟩
  · obtain ⟨y1, y2, y3⟩ := FK.out k w' hw
    go_simp
    first | rfl | exact ⟨rfl, hw⟩
  go_simp
  refine wpStage_read rfl rfl ?_
  apply Exists.intro
  refine ⟨fun k w' hk hw => ?_, ?_⟩
  · go_simp
    first | rfl | exact ⟨rfl, hw⟩
  go_simp
  refine wpStage_read rfl rfl ?_
  apply Exists.intro
  refine ⟨fun k w' hk hw => ?_, ?_⟩
  · go_simp
    first | rfl | exact ⟨rfl, hw⟩
  go_simp
  refine wpStage_move rfl rfl ?_
  apply Exists.intro
  refine ⟨fun w' hw => ?_, ?_⟩
  · have hw : w' = wb.drew := hw
    subst hw
    go_simp
    first | rfl | exact ⟨rfl, rfl⟩
  go_simp
  refine wpStage_read rfl rfl ?_
  apply Exists.intro
  refine ⟨fun k w' hk hw => ?_, ?_⟩
  · go_simp
    first | rfl | exact ⟨rfl, hw⟩
  go_simp
  refine wpStage_read rfl rfl ?_
  apply Exists.intro
  refine ⟨fun k w' hk hw => ?_, ?_⟩
  · go_simp
    first | rfl | exact ⟨rfl, hw⟩
  go_simp
  refine wpStage_move rfl rfl ?_
  apply Exists.intro
  refine ⟨fun w' hw => ?_, ?_⟩
  · have hw : w' = (wb.drew.setCell ⟨g3, v * 7 + 3, none⟩ (.int .i64 (vis + 1))) := hw
    subst hw
    go_simp
    first | rfl | exact ⟨rfl, rfl⟩
  go_simp
  intro wc hw0
  have hw : wc = ((wb.drew.setCell ⟨g3, v * 7 + 3, none⟩ (.int .i64 (vis + 1))).setCell ⟨g3, v * 7 + 4, none⟩ (.int .i64 (vis + 1))) := hw0
  clear hw0
  rw [← hw] at D2
  clear hw FK x1 x2 x3 x4 x5 x6 x7 d1 d2 d3 ln lc3
  go_wp2
  obtain ⟨M2, hD, hL⟩ := D2.out
  have hlen : M2.n 9 < 100000000 := by rw [hD.pm.stk.1]; omega
  have x1 := hD.box
  have x2 := hD.pm.hdr hD.rep hD.b11 (show 9 < 11 by omega)
  obtain ⟨gn, kn, wa, hr, hRa, hGa⟩ := run_append_row (P := Try.prog) (hD.rep.alloc (.cells #[.int .i64 (v : Int)] 3)).drew 9 26 26 3 i3 (.int .i64 0) 1 8 rfl Try.underlying26 hi3 hz30 hz31 hz32 rfl (by decide) ⟨wc.heap.size, 0, none⟩ 1 [.int .i64 (v : Int)] rfl (news1' wc _ _ _ rfl) (by simp [Value.oneCell']) (by omega) (by decide)
  have ba : (M2.put 9 (some gn) (M2.n 9 + 1) kn (ext (M2.F 9) (M2.n 9 * 1) [.int .i64 (v : Int)])).b 11 = some p := (put_b (by omega)).trans hD.b11
  have b3a : (M2.put 9 (some gn) (M2.n 9 + 1) kn (ext (M2.F 9) (M2.n 9 * 1) [.int .i64 (v : Int)])).b 13 = some q13 := (put_b (by omega)).trans hD.b13
  have v1 := (hRa.cell b3a (j := 0) (by rw [put_n (by omega), hD.n13]; decide)).trans (congrArg some ((congrFun (put_F (by omega)) 0).trans hD.f13))
  have v2 := pcell hRa ba ((put_n (by omega)).trans hD.pm.p) (show 9 < 12 by omega) ((congrFun (put_F (by omega)) 9).trans (hD.pm.hd 9 (by omega)))
  have v3 := hRa.frozen ba 9
  have s13 := hD.rep.lt hD.b13
  have s11 := hD.rep.lt hD.b11
  have D3 : Hid (∃ M3, DIn w M p q13 q14 (vis + 1) (wa.setCell ⟨p, 9, none⟩ (.slice (some ⟨gn, 0, none⟩) (M2.n 9 + 1) kn)) M3 { P' with idx := upd P'.idx v (vis + 1), low := upd P'.low v (vis + 1), nK := P'.nK + 1, stk := upd P'.stk P'.nK v } ∧ LocX X14 M' M3) :=
    ⟨_, hD.pushp (i := 9) (by omega) (by omega) (hD.grew.alloc _).drew hRa hGa (hD.pm.push_stk (v : Int) (some gn) kn), (hL.put (.inl (by unfold Own; omega)) (by omega)).set (.inl (by unfold Own; omega))⟩
  unfold Fam.val at x2 hr v2
  have HR : Hid ((Builtin.append_ #[26, 26] 26 #[.slice (Option.map (fun g => (⟨g, 0, none⟩ : Addr)) (M2.b 9)) (M2.n 9) (M2.cap 9), .slice (some ⟨wc.heap.size, 0, none⟩) 1 1]).run Try.prog ((wc.alloc (.cells #[.int .i64 (v : Int)] 3)).drew) = .ok (.slice (some ⟨gn, 0, none⟩) (M2.n 9 + 1) kn) wa) := hr
  clear hD hL hRa hGa ba b3a hr D2
  generalize Option.map (fun g => (⟨g, 0, none⟩ : Addr)) (M2.b 9) = af at *
  generalize M2.n 9 = nf at *
  generalize M2.cap 9 = kf at *
  have FK : Hid (∀ k w'', k ≤ 2 → C3 wc.drew ((wc.alloc (.cells #[.int .i64 (v : Int)] 3)).drew) wa (wa.setCell ⟨p, 9, none⟩ (.slice (some ⟨gn, 0, none⟩) (nf + 1) kn)) k w'' → w''.cell? ⟨q13, 0, none⟩ = some (.pointer (some ⟨p, 0, none⟩)) ∧ w''.cell? ⟨p, 9, none⟩ = some (.slice af nf kf)) := by
    intro k w'' hk hw
    match k, hk with
    | 0, _ =>
      have hw : w'' = wc.drew := hw
      subst hw
      exact ⟨x1, x2⟩
    | 1, _ =>
      have hw : w'' = ((wc.alloc (.cells #[.int .i64 (v : Int)] 3)).drew) := hw
      subst hw
      rw [cell_alloc_drew s13, cell_alloc_drew s11]
      exact ⟨x1, x2⟩
    | 2, _ =>
      have hw : w'' = wa := hw
      subst hw
      exact ⟨v1, v2⟩
  refine wp_region_stage (C3 wc.drew ((wc.alloc (.cells #[.int .i64 (v : Int)] 3)).drew) wa (wa.setCell ⟨p, 9, none⟩ (.slice (some ⟨gn, 0, none⟩) (nf + 1) kn))) [6, 7, 10] (fun i => if i = 0 then 2 else if i < 5 then 1 else if i < 6 then 0 else 2) (by kernel_rfl) (by kernel_rfl) (rfl) ?_
  refine wpStage_read rfl rfl ?_
  apply Exists.intro
  refine ⟨fun k w' hk hw => ?_, ?_⟩
  · obtain ⟨y1, y2⟩ := FK.out k w' hk hw
    go_simp
    first | rfl | exact ⟨rfl, hw⟩
  go_simp
  refine wpStage_read rfl rfl ?_
  apply Exists.intro
  refine ⟨fun k w' hk hw => ?_, ?_⟩
  · obtain ⟨y1, y2⟩ := FK.out k w' (Nat.le_succ_of_le hk) hw
    go_simp
    first | rfl | exact ⟨rfl, hw⟩
  go_simp
  refine wpStage_read rfl rfl ?_
  apply Exists.intro
  refine ⟨fun k w' hk hw => ?_, ?_⟩
  · go_simp
    first | rfl | exact ⟨rfl, hw⟩
  go_simp
  refine wpStage_read rfl rfl ?_
  apply Exists.intro
  refine ⟨fun k w' hk hw => ?_, ?_⟩
  · go_simp
    first | rfl | exact ⟨rfl, hw⟩
  go_simp
  refine wpStage_read rfl rfl ?_
  apply Exists.intro
  refine ⟨fun k w' hk hw => ?_, ?_⟩
  · obtain ⟨y1, y2⟩ := FK.out k w' (Nat.le_succ_of_le hk) hw
    go_simp
    first | rfl | exact ⟨rfl, hw⟩
  go_simp
  refine wpStage_read rfl rfl ?_
  apply Exists.intro
  refine ⟨fun k w' hk hw => ?_, ?_⟩
  · go_simp
    first | rfl | exact ⟨rfl, hw⟩
  go_simp
  refine wpStage_move rfl rfl ?_
  apply Exists.intro
  refine ⟨fun w' hw => ?_, ?_⟩
  · have hw : w' = wc.drew := hw
    subst hw
    go_simp
    first | rfl | exact ⟨rfl, rfl⟩
  go_simp
  refine wpStage_move rfl rfl ?_
  apply Exists.intro
  refine ⟨fun w' hw => ?_, ?_⟩
  · have hw : w' = ((wc.alloc (.cells #[.int .i64 (v : Int)] 3)).drew) := hw
    subst hw
    exact yTo_append (.tmp 26) (.tmp 28) 26 rfl (by simp [Act.eval]) (by simp [Act.eval]) HR.out rfl
  go_simp
  refine wpStage_read rfl rfl ?_
  apply Exists.intro
  refine ⟨fun k w' hk hw => ?_, ?_⟩
  · go_simp
    first | rfl | exact ⟨rfl, hw⟩
  go_simp
  refine wpStage_read rfl rfl ?_
  apply Exists.intro
  refine ⟨fun k w' hk hw => ?_, ?_⟩
  · go_simp
    first | rfl | exact ⟨rfl, hw⟩
  go_simp
  refine wpStage_move rfl rfl ?_
  apply Exists.intro
  refine ⟨fun w' hw => ?_, ?_⟩
  · have hw : w' = wa := hw
    subst hw
    go_simp
    first | rfl | exact ⟨rfl, rfl⟩
  go_simp
  intro wd hw0
  have hw : wd = (wa.setCell ⟨p, 9, none⟩ (.slice (some ⟨gn, 0, none⟩) (nf + 1) kn)) := hw0
  clear hw0
  rw [← hw] at D3
  clear hw FK x1 x2 v1 v2 v3 s13 s11 HR hlen
  go_wp2
  obtain ⟨M2, hD, hL⟩ := D3.out
  have hlen : M2.n 10 < 100000000 := by rw [hD.pm.cqn]; omega
  have x1 := hD.box
  have x2 := hD.pm.hdr hD.rep hD.b11 (show 10 < 11 by omega)
  obtain ⟨gn, kn, wa, hr, hRa, hGa⟩ := run_append_row (P := Try.prog) (hD.rep.alloc (.cells #[.int .i64 (v : Int), .int .i64 0] 59)).drew 10 51 51 59 i59 _ 2 16 rfl Try.underlying51 hi59 hz590 hz591 hz592 rfl (by decide) ⟨wd.heap.size, 0, none⟩ 1 [.int .i64 (v : Int), .int .i64 0] rfl (newsN wd _ _ _ rfl) (by simp [Value.oneCell']) (by omega) (by decide)
  have ba : (M2.put 10 (some gn) (M2.n 10 + 1) kn (ext (M2.F 10) (M2.n 10 * 2) [.int .i64 (v : Int), .int .i64 0])).b 11 = some p := (put_b (by omega)).trans hD.b11
  have b3a : (M2.put 10 (some gn) (M2.n 10 + 1) kn (ext (M2.F 10) (M2.n 10 * 2) [.int .i64 (v : Int), .int .i64 0])).b 13 = some q13 := (put_b (by omega)).trans hD.b13
  have v1 := (hRa.cell b3a (j := 0) (by rw [put_n (by omega), hD.n13]; decide)).trans (congrArg some ((congrFun (put_F (by omega)) 0).trans hD.f13))
  have v2 := pcell hRa ba ((put_n (by omega)).trans hD.pm.p) (show 10 < 12 by omega) ((congrFun (put_F (by omega)) 10).trans (hD.pm.hd 10 (by omega)))
  have v3 := hRa.frozen ba 10
  have s13 := hD.rep.lt hD.b13
  have s11 := hD.rep.lt hD.b11
  have D4 : Hid (∃ M3, DIn w M p q13 q14 (vis + 1) (wa.setCell ⟨p, 10, none⟩ (.slice (some ⟨gn, 0, none⟩) (M2.n 10 + 1) kn)) M3 (P'.visit v (vis + 1)) ∧ LocX X14 M' M3) :=
    ⟨_, hD.pushp (i := 10) (by omega) (by omega) (hD.grew.alloc _).drew hRa hGa (hD.pm.push_cq (v : Int) 0 (some gn) kn), (hL.put (.inl (by unfold Own; omega)) (by omega)).set (.inl (by unfold Own; omega))⟩
  unfold Fam.val at x2 hr v2
  have HR : Hid ((Builtin.append_ #[51, 51] 51 #[.slice (Option.map (fun g => (⟨g, 0, none⟩ : Addr)) (M2.b 10)) (M2.n 10) (M2.cap 10), .slice (some ⟨wd.heap.size, 0, none⟩) 1 1]).run Try.prog ((wd.alloc (.cells #[.int .i64 (v : Int), .int .i64 0] 59)).drew) = .ok (.slice (some ⟨gn, 0, none⟩) (M2.n 10 + 1) kn) wa) := hr
  clear hD hL hRa hGa ba b3a hr D3
  generalize Option.map (fun g => (⟨g, 0, none⟩ : Addr)) (M2.b 10) = af at *
  generalize M2.n 10 = nf at *
  generalize M2.cap 10 = kf at *
  have FK : Hid (∀ k w'', k ≤ 2 → C3 wd.drew ((wd.alloc (.cells #[.int .i64 (v : Int), .int .i64 0] 59)).drew) wa (wa.setCell ⟨p, 10, none⟩ (.slice (some ⟨gn, 0, none⟩) (nf + 1) kn)) k w'' → w''.cell? ⟨q13, 0, none⟩ = some (.pointer (some ⟨p, 0, none⟩)) ∧ w''.cell? ⟨p, 10, none⟩ = some (.slice af nf kf)) := by
    intro k w'' hk hw
    match k, hk with
    | 0, _ =>
      have hw : w'' = wd.drew := hw
      subst hw
      exact ⟨x1, x2⟩
    | 1, _ =>
      have hw : w'' = ((wd.alloc (.cells #[.int .i64 (v : Int), .int .i64 0] 59)).drew) := hw
      subst hw
      rw [cell_alloc_drew s13, cell_alloc_drew s11]
      exact ⟨x1, x2⟩
    | 2, _ =>
      have hw : w'' = wa := hw
      subst hw
      exact ⟨v1, v2⟩
  refine wp_region_stage (C3 wd.drew ((wd.alloc (.cells #[.int .i64 (v : Int), .int .i64 0] 59)).drew) wa (wa.setCell ⟨p, 10, none⟩ (.slice (some ⟨gn, 0, none⟩) (nf + 1) kn))) [7, 8, 11] (fun i => if i = 0 then 2 else if i < 5 then 1 else if i < 7 then 0 else 2) (by kernel_rfl) (by kernel_rfl) (rfl) ?_
  refine wpStage_read rfl rfl ?_
  apply Exists.intro
  refine ⟨fun k w' hk hw => ?_, ?_⟩
  · obtain ⟨y1, y2⟩ := FK.out k w' hk hw
    go_simp
    first | rfl | exact ⟨rfl, hw⟩
  go_simp
  refine wpStage_read rfl rfl ?_
  apply Exists.intro
  refine ⟨fun k w' hk hw => ?_, ?_⟩
  · obtain ⟨y1, y2⟩ := FK.out k w' (Nat.le_succ_of_le hk) hw
    go_simp
    first | rfl | exact ⟨rfl, hw⟩
  go_simp
  refine wpStage_read rfl rfl ?_
  apply Exists.intro
  refine ⟨fun k w' hk hw => ?_, ?_⟩
  · go_simp
    first | rfl | exact ⟨rfl, hw⟩
  go_simp
  refine wpStage_read rfl rfl ?_
  apply Exists.intro
  refine ⟨fun k w' hk hw => ?_, ?_⟩
  · go_simp
    first | rfl | exact ⟨rfl, hw⟩
  go_simp
  refine wpStage_read rfl rfl ?_
  apply Exists.intro
  refine ⟨fun k w' hk hw => ?_, ?_⟩
  · obtain ⟨y1, y2⟩ := FK.out k w' (Nat.le_succ_of_le hk) hw
    go_simp
    first | rfl | exact ⟨rfl, hw⟩
  go_simp
  refine wpStage_read rfl rfl ?_
  apply Exists.intro
  refine ⟨fun k w' hk hw => ?_, ?_⟩
  · go_simp
    first | rfl | exact ⟨rfl, hw⟩
  go_simp
  refine wpStage_read rfl rfl ?_
  apply Exists.intro
  refine ⟨fun k w' hk hw => ?_, ?_⟩
  · go_simp
    first | rfl | exact ⟨rfl, hw⟩
  go_simp
  refine wpStage_move rfl rfl ?_
  apply Exists.intro
  refine ⟨fun w' hw => ?_, ?_⟩
  · have hw : w' = wd.drew := hw
    subst hw
    go_simp
    first | rfl | exact ⟨rfl, rfl⟩
  go_simp
  refine wpStage_move rfl rfl ?_
  apply Exists.intro
  refine ⟨fun w' hw => ?_, ?_⟩
  · have hw : w' = ((wd.alloc (.cells #[.int .i64 (v : Int), .int .i64 0] 59)).drew) := hw
    subst hw
    exact yTo_append (.tmp 36) (.tmp 39) 51 rfl (by simp [Act.eval]) (by simp [Act.eval]) HR.out rfl
  go_simp
  refine wpStage_read rfl rfl ?_
  apply Exists.intro
  refine ⟨fun k w' hk hw => ?_, ?_⟩
  · go_simp
    first | rfl | exact ⟨rfl, hw⟩
  go_simp
  refine wpStage_read rfl rfl ?_
  apply Exists.intro
  refine ⟨fun k w' hk hw => ?_, ?_⟩
  · go_simp
    first | rfl | exact ⟨rfl, hw⟩
  go_simp
  refine wpStage_move rfl rfl ?_
  apply Exists.intro
  refine ⟨fun w' hw => ?_, ?_⟩
  · have hw : w' = wa := hw
    subst hw
    go_simp
    first | rfl | exact ⟨rfl, rfl⟩
  go_simp
  intro we hw0
  have hw : we = (wa.setCell ⟨p, 10, none⟩ (.slice (some ⟨gn, 0, none⟩) (nf + 1) kn)) := hw0
  clear hw0
  rw [← hw] at D4
  clear hw
  go_wp2
  go_end0
  exact ⟨rfl, D4.out⟩
end Go.Proofs.Qxb6602148a
