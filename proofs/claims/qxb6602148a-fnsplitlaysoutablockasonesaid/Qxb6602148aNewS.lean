import Derived.Test.Qxb6602148aPM2
import Derived.Test.Qxb6602148aNewC
import Derived.WalkKit
import Derived.WalkLawsBesides
import Derived.RegionTactic
import Derived.LoopTactic
namespace Go.Proofs.Qxb6602148a
open Go.RowKit
set_option linter.unusedVariables false

theorem Try.info57 : (Try.prog.info? 57).map (fun i => (i.zero, i.size, i.bytes)) = some (some (.agg #[.int .i64 0, .int .i64 0, .slice none 0 0, .int .i64 0, .int .i64 0, .int .i64 0, .int .i64 0]), 7, 72) := by kernel_rfl

theorem newsN (w : World) (xs : List Value) (t : TypeId) (k : Nat) (hk : k = w.heap.size) : ∀ j u, xs[j]? = some u → (w.alloc (.cells xs.toArray t)).cell? ((⟨k, 0, none⟩ : Addr).add j) = some u := by
  subst hk
  intro j u hu
  rw [Addr.add_lit, Nat.zero_add]
  unfold World.cell?
  rw [heap_alloc_new]
  simpa using hu


theorem KP_mem (c : Nat) : KP (61 + 3 * c) = (3, 1) := by
  unfold KP
  repeat rw [if_neg (by omega)]
theorem KP_out (c : Nat) : KP (60 + 3 * c) = (3, 1) := by
  unfold KP
  repeat rw [if_neg (by omega)]

/-- What stands ready where a slot has been got, and is to be listed. -/
structure AtMem (w : World) (M : Fam) (w' : World) (M' : Fam) (P' : PS) : Prop where
  rep : Rep KP w' M'
  pm : PM M' P'
  grew : Grew M w M' w'
  loc : Loc M M'

set_option maxHeartbeats 1000000 in
theorem newSlot_new (w : World) (M : Fam) (P : PS) (p c : Nat) (v : Int) (hR : Rep KP w M) (hM : PM M P) (hp : M.b 11 = some p) (hF : P.nF = 0) (hS : P.nS < 1000000) (hc : c < P.nC) (hm : P.mn c < 1000000) :
    Calls Try.prog 31 #[.pointer (some ⟨p, 0, none⟩), .int .i64 v, .int .i64 (c : Int)] w fun e w' => e = .returned (.int .i64 (P.nS : Int)) ∧ POut w M w' ((P.pushSlot v c).pushMem c P.nS) := by
  have c3 := hM.hdr hR hp (show 3 < 11 by omega)
  have c4 := hM.hdr hR hp (show 4 < 11 by omega)
  have n4 : M.n 4 = 0 := hM.free.1.trans hF
  have n3 : Hid (M.n 3 = P.nS) := hM.nS
  have l3 : M.n 3 < 1000000 := by rw [n3.out]; exact hS
  have f3 := hR.frozen hp 3
  unfold Fam.val at c4 c3
  rw [n4] at c4
  generalize hb4 : Option.map (fun g => (⟨g, 0, none⟩ : Addr)) (M.b 4) = a4 at *
  generalize M.cap 4 = k4 at *
  have HR : Hid (Rep KP w M) := hR
  have HM : Hid (PM M P) := hM
  have HP : Hid (M.b 11 = some p) := hp
  obtain ⟨i57, hi57, hz570, hz571, hz572⟩ := info_parts Try.info57
  obtain ⟨i3, hi3, hz30, hz31, hz32⟩ := info_parts Try.info3
  clear hR hM hp
  go_enter Try.func31, Try.ntmps31
  go_wp2_with (first
    | (at_builtin; refine wpList_append_row rfl (HR.out.alloc _) 3 (M.n 3) rfl (.tmp 52) (.tmp 56) 50 rfl 57 i57 _ 7 72 rfl Try.underlying50 hi57 hz570 hz571 hz572 rfl (by decide) rfl ⟨w.heap.size, 0, none⟩ 1 (slotCells v c) rfl rfl (newsN _ (slotCells v c) _ _ rfl) (by simp [Value.oneCell', slotCells]) (by omega) (by decide) ?_
       intro g3 k3 w1 hR1 hG1
       have HR1 : Hid (Rep KP w1 (M.put 3 (some g3) (M.n 3 + 1) k3 (ext (M.F 3) (M.n 3 * 7) (slotCells v c)))) := hR1
       have HG1 : Hid (Grew M _ _ w1) := hG1
       have b1 : Hid ((M.put 3 (some g3) (M.n 3 + 1) k3 (ext (M.F 3) (M.n 3 * 7) (slotCells v c))).b 11 = some p) := HP.out
       have x3 := pcell hR1 b1.out HM.out.p (show 3 < 12 by omega) (v := M.val 3) (HM.out.hd 3 (by omega))
       have y3 := hR1.frozen b1.out 3
       clear hR1 hG1))
  obtain ⟨M1, A1⟩ : ∃ M1, AtMem w M (w1.setCell ⟨p, 3, none⟩ (.slice (some ⟨g3, 0, none⟩) (M.n 3 + 1) k3)) M1 (P.pushSlot v c) :=
    ⟨_, HR1.out.set b1.out 3 _, HM.out.push_slot (fun s hb => HR.out.nil_nc hb) v c g3 k3, (((Grew.refl M w).alloc _).trans HG1.out).set (j := 3) ⟨11, b1.out⟩ 11 3 _ _, ((Loc.refl M).put (by unfold Own; omega) (by omega)).set (by unfold Own; omega)⟩
  clear HR1 HG1 b1 x3 y3 c3 c4 f3
  generalize w1.setCell ⟨p, 3, none⟩ (.slice (some ⟨g3, 0, none⟩) (M.n 3 + 1) k3) = wA at *
  have hp1 : M1.b 11 = some p := A1.loc.p.trans HP.out
  have hc1 : c < (P.pushSlot v c).nC := hc
  have l5 : c < M1.n 5 := by rw [A1.pm.nC]; exact hc
  obtain ⟨g5, hb5⟩ := A1.rep.hasBlock (i := 5) (by omega)
  have k5 := A1.rep.le_cap 5
  have d1 : p ≠ g5 := fun e => by have := A1.rep.inj 11 5 p hp1 (by rw [e]; exact hb5); omega
  have x5 := A1.pm.hdr_some A1.rep hp1 (show 5 < 11 by omega) hb5
  have z5 := (A1.rep.cell (i := 5) (g := g5) (j := c) hb5 (by show c < M1.n 5 * 1; omega)).trans (congrArg some (A1.pm.memh c hc1))
  have s5 : g5 < wA.heap.size := A1.rep.lt hb5
  have sp : p < wA.heap.size := A1.rep.lt hp1
  have z5' : ∀ o, (wA.alloc o).cell? ⟨g5, c, none⟩ = some (M1.val (61 + 3 * c)) := fun o => ((A1.rep.alloc o).cell (i := 5) (g := g5) (j := c) hb5 (by show c < M1.n 5 * 1; omega)).trans (congrArg some (A1.pm.memh c hc1))
  have u5 := A1.rep.frozen (i := 5) (g := g5) hb5 c
  have lm : M1.n (61 + 3 * c) < 1000000 := by rw [(A1.pm.mem c hc1).1]; exact hm
  have B5 : Hid (M1.b 5 = some g5) := hb5
  have P1 : Hid (M1.b 11 = some p) := hp1
  have X5 : M1.F 11 5 = .slice (some ⟨g5, 0, none⟩) (M1.n 5) (M1.cap 5) := (A1.pm.hd 5 (by omega)).trans (val_some hb5)
  have HA : Hid (AtMem w M wA M1 (P.pushSlot v c)) := A1
  clear hb5 A1 hp1
  generalize hN5 : M1.n 5 = n5 at *
  have N5 : Hid (M1.n 5 = n5) := hN5
  clear hN5
  generalize M1.cap 5 = q5 at *
  have HX5 : Hid (M1.F 11 5 = .slice (some ⟨g5, 0, none⟩) n5 q5) := X5
  clear X5
  go_region_law (refine step_append_row rfl (HA.out.rep.alloc _).drew (61 + 3 * c) (M1.n (61 + 3 * c)) rfl (.tmp 71) (.tmp 73) 26 rfl 3 i3 (.int .i64 0) 1 8 (KP_mem c) Try.underlying26 hi3 hz30 hz31 hz32 rfl (by decide) (by simp [Act.eval]) ⟨wA.heap.size, 0, none⟩ 1 [.int .i64 ((M.n 3 : Nat) : Int)] (by simp [Act.eval]) rfl (news1' wA _ _ _ rfl) (by simp [Value.oneCell']) (by omega) (by decide) ?_; intro gm km w2 hR2 hG2; have B2 : (M1.put (61 + 3 * c) (some gm) (M1.n (61 + 3 * c) + 1) km (ext (M1.F (61 + 3 * c)) (M1.n (61 + 3 * c) * 1) [.int .i64 ((M.n 3 : Nat) : Int)])).b 5 = some g5 := (put_b (by omega)).trans B5.out; have z52 := hR2.cell B2 (j := c) (by rw [put_n (by omega)]; show c < M1.n 5 * 1; rw [N5.out]; omega); have u52 := hR2.frozen B2 c; have x52 := pcell hR2 ((put_b (by omega)).trans P1.out) ((put_n (by omega)).trans HA.out.pm.p) (show 5 < 12 by omega) ((congrFun (put_F (by omega)) 5).trans HX5.out))
  all_goals go_wp2
  all_goals go_ret
  all_goals
    refine ⟨?_, _, hR2.set B2 c _, ?_, ?_, ?_⟩
    · show Ending.returned (.int .i64 ((M.n 3 : Nat) : Int)) = _
      rw [n3.out]
    · have := HA.out.pm.push_mem hc1 ((M.n 3 : Nat) : Int) gm km
      rw [n3.out] at this ⊢
      exact this
    · exact ((HA.out.grew.alloc _).drew.trans hG2).set (j := c) ⟨5, B2⟩ 5 c _ _
    · exact (HA.out.loc.put (by unfold Own; omega) (by omega)).set (by unfold Own; omega)
end Go.Proofs.Qxb6602148a
