import Derived.Test.Qxb6602148aNewS
namespace Go.Proofs.Qxb6602148a
open Go.RowKit
set_option linter.unusedVariables false

set_option maxHeartbeats 1000000 in
theorem newSlot_reuse (w : World) (M : Fam) (P : PS) (p c s : Nat) (v : Int) (hR : Rep KP w M) (hM : PM M P) (hp : M.b 11 = some p) (hF : 0 < P.nF) (hs : P.free (P.nF - 1) = (s : Nat)) (hsS : s < P.nS) (hc : c < P.nC) (hm : P.mn c < 1000000) :
    Calls Try.prog 31 #[.pointer (some ⟨p, 0, none⟩), .int .i64 v, .int .i64 (c : Int)] w fun e w' => e = .returned (.int .i64 (s : Int)) ∧ POut w M w' ((({ P with nF := P.nF - 1 } : PS).reset s v c).pushMem c (s : Nat)) := by
  obtain ⟨g4, b4⟩ := hM.free.pos_block hR hF
  obtain ⟨g3, b3⟩ := hR.hasBlock (i := 3) (by rw [hM.nS]; omega)
  have c3 := hM.hdr_some hR hp (show 3 < 11 by omega) b3
  have c4 := hM.hdr_some hR hp (show 4 < 11 by omega) b4
  have n4 : M.n 4 = P.nF := hM.free.1
  have n3 : M.n 3 = P.nS := hM.nS
  have l3 := hR.le_cap 3
  have l4 := hR.le_cap 4
  have m4 := hR.cap_le 4
  simp only [maxLen] at m4
  rw [n3] at c3 l3; rw [n4] at c4 l4
  have u4 := hM.free.cell hR b4 rfl (show P.nF - 1 < P.nF by omega)
  rw [hs] at u4
  have f4 := hR.frozen hp 4
  have f3 := hR.frozen b3
  have d1 : p ≠ g4 := fun e => by have := hR.inj 11 4 p hp (by rw [e]; exact b4); omega
  have d2 : p ≠ g3 := fun e => by have := hR.inj 11 3 p hp (by rw [e]; exact b3); omega
  have c30 := hR.cell (i := 3) (g := g3) (j := s * 7) b3 (by show s * 7 < M.n 3 * 7; omega)
  have c31 := hR.cell (i := 3) (g := g3) (j := s * 7 + 1) b3 (by show s * 7 + 1 < M.n 3 * 7; omega)
  have c32 := hR.cell (i := 3) (g := g3) (j := s * 7 + 2) b3 (by show s * 7 + 2 < M.n 3 * 7; omega)
  have c33 := hR.cell (i := 3) (g := g3) (j := s * 7 + 3) b3 (by show s * 7 + 3 < M.n 3 * 7; omega)
  have c34 := hR.cell (i := 3) (g := g3) (j := s * 7 + 4) b3 (by show s * 7 + 4 < M.n 3 * 7; omega)
  have c35 := hR.cell (i := 3) (g := g3) (j := s * 7 + 5) b3 (by show s * 7 + 5 < M.n 3 * 7; omega)
  have c36 := hR.cell (i := 3) (g := g3) (j := s * 7 + 6) b3 (by show s * 7 + 6 < M.n 3 * 7; omega)
  have fin : Hid (∀ x, x = Value.slice (some ⟨g4, 0, none⟩) (P.nF - 1) (M.cap 4) → ∃ M1, AtMem w M ((((((((w.setCell ⟨p, 4, none⟩ x).setCell ⟨g3, s * 7, none⟩ (.int .i64 v)).setCell ⟨g3, s * 7 + 1, none⟩ (.int .i64 (c : Nat))).setCell ⟨g3, s * 7 + 2, none⟩ (.slice none 0 0)).setCell ⟨g3, s * 7 + 3, none⟩ (.int .i64 0)).setCell ⟨g3, s * 7 + 4, none⟩ (.int .i64 0)).setCell ⟨g3, s * 7 + 5, none⟩ (.int .i64 0)).setCell ⟨g3, s * 7 + 6, none⟩ (.int .i64 0)).drew M1 (({ P with nF := P.nF - 1 } : PS).reset s v c)) := by
    intro x hx
    have r2 := ((hR.shrink 4 (n' := P.nF - 1) (by omega)).set (i := 11) (g := p) (by rw [put_b (by omega)]; exact hp) 4 x).drop (60 + 3 * s) (fun _ => x)
    have q3 : ((((M.put 4 (M.b 4) (P.nF - 1) (M.cap 4) (M.F 4)).set 11 4 x).put (60 + 3 * s) none 0 0 (fun _ => x)).b 3) = some g3 := by rw [put_b (by omega), set_b, put_b (by omega)]; exact b3
    have q11 : ((M.put 4 (M.b 4) (P.nF - 1) (M.cap 4) (M.F 4)).b 11) = some p := by rw [put_b (by omega)]; exact hp
    have r3 := ((((((r2.set (i := 3) (g := g3) q3 (s * 7) (.int .i64 v)).set (i := 3) (g := g3) q3 (s * 7 + 1) (.int .i64 (c : Nat))).set (i := 3) (g := g3) q3 (s * 7 + 2) (.slice none 0 0)).set (i := 3) (g := g3) q3 (s * 7 + 3) (.int .i64 0)).set (i := 3) (g := g3) q3 (s * 7 + 4) (.int .i64 0)).set (i := 3) (g := g3) q3 (s * 7 + 5) (.int .i64 0)).set (i := 3) (g := g3) q3 (s * 7 + 6) (.int .i64 0)
    have m1 := hM.cut_free (n := P.nF - 1) (by omega) (M.b 4) (M.cap 4)
    rw [b4] at m1
    refine ⟨_, r3.drew, ?_, ?_, ?_⟩
    · rw [b4, hx]; exact m1.reset (t := s) hsS v c _
    · exact (((((((((((Grew.refl M w).put (.inl rfl)).set ⟨11, q11⟩ _ _ _ _).put (.inr rfl)).set ⟨3, q3⟩ _ _ _ _).set ⟨3, q3⟩ _ _ _ _).set ⟨3, q3⟩ _ _ _ _).set ⟨3, q3⟩ _ _ _ _).set ⟨3, q3⟩ _ _ _ _).set ⟨3, q3⟩ _ _ _ _).set ⟨3, q3⟩ _ _ _ _).drew
    · exact (((((((((((Loc.refl M).put (by unfold Own; omega) (by omega)).set (by unfold Own; omega)).put (by unfold Own; omega) (by omega)).set (by unfold Own; omega)).set (by unfold Own; omega)).set (by unfold Own; omega)).set (by unfold Own; omega)).set (by unfold Own; omega)).set (by unfold Own; omega)).set (by unfold Own; omega))
  have NC : Hid (c < (({ P with nF := P.nF - 1 } : PS).reset s v c).nC) := hc
  have NM : Hid ((({ P with nF := P.nF - 1 } : PS).reset s v c).mn c < 1000000) := hm
  generalize (({ P with nF := P.nF - 1 } : PS).reset s v c) = Q at *
  have HP : Hid (M.b 11 = some p) := hp
  generalize M.cap 3 = k3 at *
  generalize M.cap 4 = k4 at *
  generalize hnF : P.nF = nF at *
  generalize hnS : P.nS = nS at *
  have HR : Hid (Rep KP w M) := hR
  have HM : Hid (PM M P) := hM
  clear n3 n4 hs hR hM hc hm hp b3 b4
  go_enter Try.func31, Try.ntmps31
  go_wp2
  go_region
  go_wp2
  obtain ⟨M1, A1⟩ := fin.out _ rfl
  clear fin c30 c31 c32 c33 c34 c35 c36 u4 c4 c3 l3 l4 m4 f3 f4
  generalize ((((((((w.setCell { block := p, off := 4 } (Value.slice (some { block := g4, off := 0 }) (nF - 1) k4)).setCell { block := g3, off := s * 7 } (Value.int IntKind.i64 v)).setCell { block := g3, off := s * 7 + 1 } (Value.int IntKind.i64 ((c : Nat) : Int))).setCell { block := g3, off := s * 7 + 2 } (Value.slice none 0 0)).setCell { block := g3, off := s * 7 + 3 } (Value.int IntKind.i64 0)).setCell { block := g3, off := s * 7 + 4 } (Value.int IntKind.i64 0)).setCell { block := g3, off := s * 7 + 5 } (Value.int IntKind.i64 0)).setCell { block := g3, off := s * 7 + 6 } (Value.int IntKind.i64 0)).drew = wA at *
  have hp1 : M1.b 11 = some p := A1.loc.p.trans HP.out
  have hc1 : c < Q.nC := NC.out
  have l5 : c < M1.n 5 := by rw [A1.pm.nC]; exact hc1
  obtain ⟨g5, hb5⟩ := A1.rep.hasBlock (i := 5) (by omega)
  have k5 := A1.rep.le_cap 5
  have d1 : p ≠ g5 := fun e => by have := A1.rep.inj 11 5 p hp1 (by rw [e]; exact hb5); omega
  have x5 := A1.pm.hdr_some A1.rep hp1 (show 5 < 11 by omega) hb5
  have z5 := (A1.rep.cell (i := 5) (g := g5) (j := c) hb5 (by show c < M1.n 5 * 1; omega)).trans (congrArg some (A1.pm.memh c hc1))
  have s5 : g5 < wA.heap.size := A1.rep.lt hb5
  have sp : p < wA.heap.size := A1.rep.lt hp1
  have u5 := A1.rep.frozen (i := 5) (g := g5) hb5 c
  have lm : M1.n (61 + 3 * c) < 1000000 := by rw [(A1.pm.mem c hc1).1]; exact NM.out
  have B5 : Hid (M1.b 5 = some g5) := hb5
  have P1 : Hid (M1.b 11 = some p) := hp1
  have X5 : M1.F 11 5 = .slice (some ⟨g5, 0, none⟩) (M1.n 5) (M1.cap 5) := (A1.pm.hd 5 (by omega)).trans (val_some hb5)
  have HA : Hid (AtMem w M wA M1 Q) := A1
  clear hb5 A1 hp1 hnF hnS
  generalize hN5 : M1.n 5 = n5 at *
  have N5 : Hid (M1.n 5 = n5) := hN5
  clear hN5
  generalize M1.cap 5 = q5 at *
  have HX5 : Hid (M1.F 11 5 = .slice (some ⟨g5, 0, none⟩) n5 q5) := X5
  clear X5
  obtain ⟨i3, hi3, hz30, hz31, hz32⟩ := info_parts Try.info3
  go_region_law (refine step_append_row rfl (HA.out.rep.alloc _).drew (61 + 3 * c) (M1.n (61 + 3 * c)) rfl (.tmp 71) (.tmp 73) 26 rfl 3 i3 (.int .i64 0) 1 8 (KP_mem c) Try.underlying26 hi3 hz30 hz31 hz32 rfl (by decide) (by simp [Act.eval]) ⟨wA.heap.size, 0, none⟩ 1 [.int .i64 (s : Int)] (by simp [Act.eval]) rfl (news1' wA _ _ _ rfl) (by simp [Value.oneCell']) (by omega) (by decide) ?_; intro gm km w2 hR2 hG2; have B2 : (M1.put (61 + 3 * c) (some gm) (M1.n (61 + 3 * c) + 1) km (ext (M1.F (61 + 3 * c)) (M1.n (61 + 3 * c) * 1) [.int .i64 (s : Int)])).b 5 = some g5 := (put_b (by omega)).trans B5.out; have z52 := hR2.cell B2 (j := c) (by rw [put_n (by omega)]; show c < M1.n 5 * 1; rw [N5.out]; omega); have u52 := hR2.frozen B2 c; have x52 := pcell hR2 ((put_b (by omega)).trans P1.out) ((put_n (by omega)).trans HA.out.pm.p) (show 5 < 12 by omega) ((congrFun (put_F (by omega)) 5).trans HX5.out))
  all_goals go_wp2
  all_goals go_ret
  all_goals
    refine ⟨rfl, _, hR2.set B2 c _, ?_, ?_, ?_⟩
    · exact HA.out.pm.push_mem hc1 (s : Int) gm km
    · exact ((HA.out.grew.alloc _).drew.trans hG2).set (j := c) ⟨5, B2⟩ 5 c _ _
    · exact (HA.out.loc.put (by unfold Own; omega) (by omega)).set (by unfold Own; omega)

theorem newSlot_calls (w : World) (M : Fam) (P : PS) (p c : Nat) (v : Int) (hR : Rep KP w M) (hM : PM M P) (hp : M.b 11 = some p) (hf : 0 < P.nF → 0 ≤ P.free (P.nF - 1) ∧ P.free (P.nF - 1) < P.nS) (hS : P.nS < 1000000) (hc : c < P.nC) (hm : P.mn c < 1000000) :
    Calls Try.prog 31 #[.pointer (some ⟨p, 0, none⟩), .int .i64 v, .int .i64 (c : Int)] w fun e w' => e = .returned (.int .i64 (P.slotNo : Int)) ∧ POut w M w' (P.newSlot v c) := by
  unfold PS.newSlot PS.slotNo
  by_cases e : P.nF = 0
  · simp only [if_pos e]
    exact newSlot_new w M P p c v hR hM hp e hS hc hm
  · simp only [if_neg e]
    obtain ⟨f1, f2⟩ := hf (by omega)
    exact newSlot_reuse w M P p c _ v hR hM hp (by omega) (by omega) (by omega) hc hm
theorem newComp_calls (w : World) (M : Fam) (P : PS) (p : Nat) (hR : Rep KP w M) (hM : PM M P) (hp : M.b 11 = some p) (hu : 0 < P.nU → 0 ≤ P.unused (P.nU - 1) ∧ P.unused (P.nU - 1) < P.nC) (hC : P.nC < 1000000) :
    Calls Try.prog 30 #[.pointer (some ⟨p, 0, none⟩)] w fun e w' => e = .returned (.int .i64 (P.compNo : Int)) ∧ POut w M w' P.newComp := by
  unfold PS.newComp PS.compNo
  by_cases e : P.nU = 0
  · simp only [if_pos e]
    exact newComp_new w M P p hR hM hp e hC
  · simp only [if_neg e]
    obtain ⟨f1, f2⟩ := hu (by omega)
    exact newComp_reuse w M P p _ hR hM hp (by omega) (by omega) (by omega)
end Go.Proofs.Qxb6602148a
