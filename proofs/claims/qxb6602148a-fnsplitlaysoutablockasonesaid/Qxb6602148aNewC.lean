import Derived.Test.Qxb6602148aLay
import Derived.WalkKit
import Derived.WalkLawsBesides
import Derived.RegionTactic
import Derived.LoopTactic
namespace Go.Proofs.Qxb6602148a
open Go.RowKit
set_option linter.unusedVariables false


theorem Try.info3 : (Try.prog.info? 3).map (fun i => (i.zero, i.size, i.bytes)) = some (some (.int .i64 0), 1, 8) := by kernel_rfl
theorem Try.info26 : (Try.prog.info? 26).map (fun i => (i.zero, i.size, i.bytes)) = some (some (.slice none 0 0), 1, 24) := by kernel_rfl

theorem news1 (w : World) (x : Value) (t : TypeId) : ∀ j u, [x][j]? = some u → (w.alloc (.cells #[x] t)).cell? ((⟨w.heap.size, 0, none⟩ : Addr).add j) = some u := by
  intro j u hu
  rw [Addr.add_lit, Nat.zero_add]
  cases j with
  | zero => simp at hu; subst hu; unfold World.cell?; rw [heap_alloc_new]; rfl
  | succ j => simp at hu

theorem news1' (w : World) (x : Value) (t : TypeId) (k : Nat) (hk : k = w.heap.size) : ∀ j u, [x][j]? = some u → (w.alloc (.cells #[x] t)).cell? ((⟨k, 0, none⟩ : Addr).add j) = some u := by
  subst hk
  exact news1 w x t

set_option maxHeartbeats 400000 in
theorem newComp_reuse (w : World) (M : Fam) (P : PS) (p c : Nat) (hR : Rep KP w M) (hM : PM M P) (hp : M.b 11 = some p) (hU : 0 < P.nU) (hc : P.unused (P.nU - 1) = c) (hcC : c < P.nC) :
    Calls Try.prog 30 #[.pointer (some ⟨p, 0, none⟩)] w fun e w' => e = .returned (.int .i64 (c : Int)) ∧ POut w M w' (P.reuse c) := by
  obtain ⟨g6, b6⟩ := hM.unused.pos_block hR hU
  obtain ⟨g7, b7⟩ := hM.edg.pos_block hR (show 0 < P.nC by omega)
  obtain ⟨g8, b8⟩ := hM.spent.pos_block hR (show 0 < P.nC by omega)
  have c6 := hM.hdr_some hR hp (show 6 < 11 by omega) b6
  have c7 := hM.hdr_some hR hp (show 7 < 11 by omega) b7
  have c8 := hM.hdr_some hR hp (show 8 < 11 by omega) b8
  have n6 : M.n 6 = P.nU := hM.unused.1
  have n7 : M.n 7 = P.nC := hM.edg.1
  have n8 : M.n 8 = P.nC := hM.spent.1
  have l6 := hR.le_cap 6
  have l7 := hR.le_cap 7
  have l8 := hR.le_cap 8
  have m6 := hR.cap_le 6
  simp only [maxLen] at m6
  rw [n6] at c6 l6; rw [n7] at c7 l7; rw [n8] at c8 l8
  have u6 := hM.unused.cell hR b6 rfl (show P.nU - 1 < P.nU by omega)
  rw [hc] at u6
  have e7 := hM.edg.cell hR b7 rfl hcC
  have e8 := hM.spent.cell hR b8 rfl hcC
  have f11 := hR.frozen hp 6
  have f7 := hR.frozen b7 c
  have f8 := hR.frozen b8 c
  have d1 : p ≠ g6 := fun e => by have := hR.inj 11 6 p hp (by rw [e]; exact b6); omega
  have d2 : p ≠ g7 := fun e => by have := hR.inj 11 7 p hp (by rw [e]; exact b7); omega
  have d3 : p ≠ g8 := fun e => by have := hR.inj 11 8 p hp (by rw [e]; exact b8); omega
  have d4 : g7 ≠ g8 := fun e => by have := hR.inj 7 8 g7 b7 (by rw [e]; exact b8); omega
  have fin : Hid (∀ v, v = Value.slice (some ⟨g6, 0, none⟩) (P.nU - 1) (M.cap 6) → POut w M (((w.setCell ⟨p, 6, none⟩ v).setCell ⟨g7, c, none⟩ (.int .i64 0)).setCell ⟨g8, c, none⟩ (.int .i64 0)) (P.reuse c)) := by
    intro v hv
    have r1 := ((hR.shrink 6 (n' := P.nU - 1) (by omega)).set (i := 11) (g := p) (by rw [put_b (by omega)]; exact hp) 6 v)
    have r2 := r1.set (i := 7) (g := g7) (by rw [set_b, put_b (by omega)]; exact b7) c (.int .i64 0)
    have r3 := r2.set (i := 8) (g := g8) (by rw [set_b, set_b, put_b (by omega)]; exact b8) c (.int .i64 0)
    have m1 := hM.cut_unused (n := P.nU - 1) (by omega) (M.b 6) (M.cap 6)
    rw [b6] at m1
    have m2 := (m1.set_edg c 0).set_spent c 0
    refine ⟨_, r3, ?_, ?_, ?_⟩
    · rw [b6, hv]; exact m2
    · refine ((((Grew.refl M w).put (.inl rfl)).set ⟨11, ?_⟩ _ _ _ _).set ⟨7, ?_⟩ _ _ _ _).set ⟨8, ?_⟩ _ _ _ _
      · rw [put_b (by omega)]; exact hp
      · rw [set_b, put_b (by omega)]; exact b7
      · rw [set_b, set_b, put_b (by omega)]; exact b8
    · exact ((((Loc.refl M).put (by unfold Own; omega) (by omega)).set (by unfold Own; omega)).set (by unfold Own; omega)).set (by unfold Own; omega)
  generalize M.cap 6 = k6 at *
  generalize M.cap 7 = k7 at *
  generalize M.cap 8 = k8 at *
  generalize hnU : P.nU = nU at *
  generalize hnC : P.nC = nC at *
  clear n6 n7 n8 hc hR hM
  go_enter Try.func30, Try.ntmps30
  go_wp2
  go_region
  go_wp2
  go_ret
  refine ⟨rfl, ?_⟩
  exact (fin.out _ rfl).drew

theorem Rep.nil_nc {w : World} {M : Fam} (h : Rep KP w M) {i : Nat} (hb : M.b i = none) : M.n i = 0 ∧ M.cap i = 0 := by
  have := h.row i
  rw [hb] at this
  exact this


/-- A cell of the struct. -/
theorem pcell {w : World} {M : Fam} {p : Nat} (h : Rep KP w M) (hb : M.b 11 = some p) (hn : M.n 11 = 1) {j : Nat} (hj : j < 12) {v : Value} (hv : M.F 11 j = v) : w.cell? ⟨p, j, none⟩ = some v := by
  rw [h.cell hb (by rw [hn]; show j < 1 * 12; omega), hv]

set_option maxHeartbeats 1000000 in
theorem newComp_new (w : World) (M : Fam) (P : PS) (p : Nat) (hR : Rep KP w M) (hM : PM M P) (hp : M.b 11 = some p) (hU : P.nU = 0) (hC : P.nC < 1000000) :
    Calls Try.prog 30 #[.pointer (some ⟨p, 0, none⟩)] w fun e w' => e = .returned (.int .i64 (P.nC : Int)) ∧ POut w M w' P.grow := by
  have c5 := hM.hdr hR hp (show 5 < 11 by omega)
  have c6 := hM.hdr hR hp (show 6 < 11 by omega)
  have n6 : M.n 6 = 0 := hM.unused.1.trans hU
  have n5 : Hid (M.n 5 = P.nC) := hM.nC
  have l5 : M.n 5 < 1000000 := by rw [n5.out]; exact hC
  have l7 : M.n 7 < 1000000 := by rw [hM.edg.1]; exact hC
  have l8 : M.n 8 < 1000000 := by rw [hM.spent.1]; exact hC
  have f5 := hR.frozen hp 5
  unfold Fam.val at c6
  rw [n6] at c6
  generalize hb6 : Option.map (fun g => (⟨g, 0, none⟩ : Addr)) (M.b 6) = a6 at *
  generalize M.cap 6 = k6 at *
  have HR : Hid (Rep KP w M) := hR
  have HM : Hid (PM M P) := hM
  have HP : Hid (M.b 11 = some p) := hp
  obtain ⟨i26, hi26, hz260, hz261, hz262⟩ := info_parts Try.info26
  obtain ⟨i3, hi3, hz30, hz31, hz32⟩ := info_parts Try.info3
  clear hR hM hp
  go_enter Try.func30, Try.ntmps30
  go_wp2_with (first
    | (at_builtin; refine wpList_append_row rfl (HR.out.alloc _) 5 (M.n 5) rfl (.tmp 47) (.tmp 48) 22 rfl 26 i26 (.slice none 0 0) 1 24 rfl Try.underlying22 hi26 hz260 hz261 hz262 rfl (by decide) rfl ⟨w.heap.size, 0, none⟩ 1 [.slice none 0 0] rfl rfl (news1 _ _ _) (by simp [Value.oneCell']) (by omega) (by decide) ?_
       intro g5 k5 w1 hR1 hG1
       have HR1 : Hid (Rep KP w1 _) := hR1
       have HG1 : Hid (Grew M _ _ w1) := hG1
       have b1 : Hid ((M.put 5 (some g5) (M.n 5 + 1) k5 (ext (M.F 5) (M.n 5 * 1) [Value.slice none 0 0])).b 11 = some p) := (put_b (by omega)).trans HP.out
       have x5 := pcell hR1 b1.out ((put_n (by omega)).trans HM.out.p) (show 5 < 12 by omega) ((congrFun (put_F (by omega)) 5).trans (HM.out.hd 5 (by omega)))
       have x7 := pcell hR1 b1.out ((put_n (by omega)).trans HM.out.p) (show 7 < 12 by omega) ((congrFun (put_F (by omega)) 7).trans (HM.out.hd 7 (by omega)))
       have y5 := hR1.frozen b1.out 5
       clear hR1 hG1)
    | (at_builtin; refine wpList_append_row rfl ((HR1.out.set b1.out 5 (.slice (some ⟨g5, 0, none⟩) (M.n 5 + 1) k5)).alloc _) 7 (M.n 7) rfl (.tmp 56) (.tmp 57) 26 rfl 3 i3 (.int .i64 0) 1 8 rfl Try.underlying26 hi3 hz30 hz31 hz32 rfl (by decide) rfl ⟨w1.heap.size, 0, none⟩ 1 [.int .i64 0] rfl rfl (news1' _ _ _ _ (by simp)) (by simp [Value.oneCell']) (by omega) (by decide) ?_
       intro g7 k7 w2 hR2 hG2
       have HR2 : Hid (Rep KP w2 _) := hR2
       have HG2 : Hid (Grew _ _ _ w2) := hG2
       have b2 : Hid ((((M.put 5 (some g5) (M.n 5 + 1) k5 (ext (M.F 5) (M.n 5 * 1) [Value.slice none 0 0])).set 11 5 (.slice (some ⟨g5, 0, none⟩) (M.n 5 + 1) k5)).put 7 (some g7) (M.n 7 + 1) k7 (ext (M.F 7) (M.n 7 * 1) [Value.int .i64 0])).b 11 = some p) := HP.out
       have x72 := pcell hR2 b2.out HM.out.p (show 7 < 12 by omega) (v := M.val 7) (HM.out.hd 7 (by omega))
       have x82 := pcell hR2 b2.out HM.out.p (show 8 < 12 by omega) (v := M.val 8) (HM.out.hd 8 (by omega))
       have y72 := hR2.frozen b2.out 7
       clear hR2 hG2)
    | (at_builtin; refine wpList_append_row rfl ((HR2.out.set b2.out 7 (.slice (some ⟨g7, 0, none⟩) (M.n 7 + 1) k7)).alloc _) 8 (M.n 8) rfl (.tmp 65) (.tmp 66) 26 rfl 3 i3 (.int .i64 0) 1 8 rfl Try.underlying26 hi3 hz30 hz31 hz32 rfl (by decide) rfl ⟨w2.heap.size, 0, none⟩ 1 [.int .i64 0] rfl rfl (news1' _ _ _ _ (by simp)) (by simp [Value.oneCell']) (by omega) (by decide) ?_
       intro g8 k8 w3 hR3 hG3
       have HR3 : Hid (Rep KP w3 _) := hR3
       have HG3 : Hid (Grew _ _ _ w3) := hG3
       have b3 : Hid ((((((M.put 5 (some g5) (M.n 5 + 1) k5 (ext (M.F 5) (M.n 5 * 1) [Value.slice none 0 0])).set 11 5 (.slice (some ⟨g5, 0, none⟩) (M.n 5 + 1) k5)).put 7 (some g7) (M.n 7 + 1) k7 (ext (M.F 7) (M.n 7 * 1) [Value.int .i64 0])).set 11 7 (.slice (some ⟨g7, 0, none⟩) (M.n 7 + 1) k7)).put 8 (some g8) (M.n 8 + 1) k8 (ext (M.F 8) (M.n 8 * 1) [Value.int .i64 0])).b 11 = some p) := HP.out
       have x83 := pcell hR3 b3.out HM.out.p (show 8 < 12 by omega) (v := M.val 8) (HM.out.hd 8 (by omega))
       have x53 := pcell hR3 b3.out HM.out.p (show 5 < 12 by omega) (v := .slice (some ⟨g5, 0, none⟩) (M.n 5 + 1) k5) rfl
       have y83 := hR3.frozen b3.out 8
       clear hR3 hG3))
  go_ret
  refine ⟨?_, _, HR3.out.set b3.out 8 _, HM.out.grow (fun c hb => HR.out.nil_nc hb) g5 k5 g7 k7 g8 k8, ?_, ?_⟩
  · show Ending.returned (.int .i64 ((M.n 5 : Nat) : Int)) = _
    rw [n5.out]
  · have q1 := ((((Grew.refl M w).alloc _).trans HG1.out).set (j := 5) ⟨11, b1.out⟩ 11 5 (.slice (some ⟨g5, 0, none⟩) (M.n 5 + 1) k5) (.slice (some ⟨g5, 0, none⟩) (M.n 5 + 1) k5))
    have q2 := (((q1.alloc _).trans HG2.out).set (j := 7) ⟨11, b2.out⟩ 11 7 (.slice (some ⟨g7, 0, none⟩) (M.n 7 + 1) k7) (.slice (some ⟨g7, 0, none⟩) (M.n 7 + 1) k7))
    exact (((q2.alloc _).trans HG3.out).set (j := 8) ⟨11, b3.out⟩ 11 8 (.slice (some ⟨g8, 0, none⟩) (M.n 8 + 1) k8) (.slice (some ⟨g8, 0, none⟩) (M.n 8 + 1) k8))
  · exact ((((((Loc.refl M).put (by unfold Own; omega) (by omega)).set (by unfold Own; omega)).put (by unfold Own; omega) (by omega)).set (by unfold Own; omega)).put (by unfold Own; omega) (by omega)).set (by unfold Own; omega)
end Go.Proofs.Qxb6602148a
