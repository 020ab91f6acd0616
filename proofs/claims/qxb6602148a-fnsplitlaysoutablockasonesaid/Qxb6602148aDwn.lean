import Derived.Test.Qxb6602148aDwm
attribute [local go_sem] Go.Proofs.Qxb6602148a.yTo Go.Proofs.Qxb6602148a.yUpon
namespace Go.Proofs.Qxb6602148a
open Go.RowKit
set_option linter.unusedVariables false
set_option linter.unusedSimpArgs false

/-- A slot's list is dropped. -/
theorem DIn.dropout {w wr : World} {M M' : Fam} {p q13 q14 : Nat} {vis : Int} {P' : PS} (h : DIn w M p q13 q14 vis wr M' P') {g3 u : Nat} (b3 : M'.b 3 = some g3) (hu : u < P'.nS) (f : Nat → Value) :
    DIn w M p q13 q14 vis (wr.setCell ⟨g3, u * 7 + 2, none⟩ (.slice none 0 0)) ((M'.put (60 + 3 * u) none 0 0 f).set 3 (u * 7 + 2) (.slice none 0 0)) (P'.dropOut u) := by
  have b3' : (M'.put (60 + 3 * u) none 0 0 f).b 3 = some g3 := (put_b (by omega)).trans b3
  refine ⟨(h.rep.drop (60 + 3 * u) f).set b3' _ _, h.pm.drop_out hu f, (h.grew.put (.inr rfl)).set ⟨3, b3'⟩ _ _ _ _, (h.loc.put (.inl (by unfold Own; omega)) (by omega)).set (.inl (by unfold Own; omega)), ?_, ?_, ?_, ?_, ?_, ?_⟩
  · rw [set_b, put_b (by omega)]; exact h.b11
  · rw [set_b, put_b (by omega)]; exact h.b13
  · rw [set_n, put_n (by omega)]; exact h.n13
  · rw [set_F _ (by omega), put_F (by omega)]; exact h.f13
  · rw [set_b, put_b (by omega)]; exact h.b14
  · exact (h.i14.put_ne (by omega)).set_ne (by omega)

set_option maxRecDepth 40000 in
set_option maxHeartbeats 8000000 in
/-- Regions 52 and 53: the slot is handed back. -/
theorem dw_c8 (x : DX) (vis : Int) (PB : PS) (L : LS) (i : Nat) (a : Act) (w : World) (M' : Fam) (P' : PS) (hf : FE6 x i a) (h20 : a.tmps.getD 20 undef = .int .i64 ((x.sl i : Nat) : Int)) (hi : i < x.n) (hn : x.n ≤ 4096) (hM : DMe x vis PB L i (x.P.on (x.sl i)) M' P' w) (hB : DB x PB L) (Q : Exit → Act → World → Prop)
    (hC : ∀ (a : Act) (w' : World) (M2 : Fam) (P2 : PS), FE6 x i a → DMe x vis PB L (i + 1) 0 M2 P2 w' → Q .normal a w') :
    Code.wp Try.prog (tl 2 (dB12 (Try.f28.body.getD .skip))) Q a w := by
  obtain ⟨i3, hi3, hz30, hz31, hz32⟩ := info_parts Try.info3
  obtain ⟨f0, t0, o0, n0, r0, e0⟩ := hM.dc.eq
  have nS2 : P'.nS = PB.nS := by rw [e0]; rfl
  have uS : x.sl i < P'.nS := by rw [nS2]; exact hB.lt i hi
  obtain ⟨g3, b3⟩ := hM.din.rep.hasBlock (i := 3) (by rw [hM.din.pm.nS]; omega)
  have z1 := hM.din.box
  have z3 := hM.din.pm.hdr_some hM.din.rep hM.din.b11 (show 3 < 11 by omega) b3
  rw [hM.din.pm.nS] at z3
  have l3 := hM.din.rep.le_cap 3
  rw [hM.din.pm.nS] at l3
  have z4 := hM.din.slot b3 uS (show 2 < 7 by omega) rfl
  have z5 := hM.din.rep.frozen b3 (x.sl i * 7 + 2)
  have hD0 := hM.din.dropout b3 uS (fun _ => undef)
  have st : Hid (∃ M2, DIn x.w x.M x.p x.q13 x.q14 vis (w.setCell ⟨g3, x.sl i * 7 + 2, none⟩ (.slice none 0 0)) M2 (P'.dropOut (x.sl i)) ∧ M2.val 12 = .slice x.a12 x.n x.k12 ∧ Ints M2 12 x.n (fun j => ((x.sl j : Nat) : Int)) ∧ M2.n 4 < 1000000) :=
    ⟨_, hD0, by rw [set_val, put_val (by omega)]; exact hM.v12, (hM.i12.put_ne (by omega)).set_ne (by omega), by
      rw [hD0.pm.free.1]
      show P'.nF < _
      rw [hM.dc.nF]
      have := hB.nF
      omega⟩
  have DCH : Hid (DC x PB L i (x.P.on (x.sl i)) P') := hM.dc
  have HC : Hid (∀ (a : Act) (w' : World) (M2 : Fam) (P2 : PS), FE6 x i a → DMe x vis PB L (i + 1) 0 M2 P2 w' → Q .normal a w') := hC
  obtain ⟨y, rfl⟩ := lite6b hf.fe h20 hf.s321 hf.s322 hf.s323
  clear hf hM hC hB b3 e0 nS2 h20 hD0
  generalize M'.F 3 (x.sl i * 7 + 2) = vv at *
  generalize M'.cap 3 = k3 at *
  generalize P'.nS = n3 at *
  show Code.wp Try.prog (Code.seq _ (Code.region _ _ _)) Q _ w
  refine wp_seq_k (fun K1 hK => ?_)
  have HK : Hid (∀ (a : Act) (w : World), _ → K1 a w) := hK
  clear hK
  go_wp2
  refine HK.out _ _ ?_
  clear HK K1 z1 z3 z4 z5
  generalize w.setCell ⟨g3, x.sl i * 7 + 2, none⟩ (.slice none 0 0) = wc at *
  obtain ⟨M2, hD, v12, i12, l4⟩ := st.out
  have dc := DCH.out
  clear st DCH
  have x1 := hD.box
  have x2 := hD.pm.hdr hD.rep hD.b11 (show 4 < 11 by omega)
  obtain ⟨gn, kn, wa, hr, hRa, hGa⟩ := run_append_row (P := Try.prog) (hD.rep.alloc (.cells #[.int .i64 ((x.sl i : Nat) : Int)] 3)).drew 4 26 26 3 i3 (.int .i64 0) 1 8 rfl Try.underlying26 hi3 hz30 hz31 hz32 rfl (by decide) ⟨wc.heap.size, 0, none⟩ 1 [.int .i64 ((x.sl i : Nat) : Int)] rfl (news1' wc _ _ _ rfl) (by simp [Value.oneCell']) (by omega) (by decide)
  have ba : (M2.put 4 (some gn) (M2.n 4 + 1) kn (ext (M2.F 4) (M2.n 4 * 1) [.int .i64 ((x.sl i : Nat) : Int)])).b 11 = some x.p := (put_b (by omega)).trans hD.b11
  have b3a : (M2.put 4 (some gn) (M2.n 4 + 1) kn (ext (M2.F 4) (M2.n 4 * 1) [.int .i64 ((x.sl i : Nat) : Int)])).b 13 = some x.q13 := (put_b (by omega)).trans hD.b13
  have v1 := (hRa.cell b3a (j := 0) (by rw [put_n (by omega), hD.n13]; decide)).trans (congrArg some ((congrFun (put_F (by omega)) 0).trans hD.f13))
  have v2 := pcell hRa ba ((put_n (by omega)).trans hD.pm.p) (show 4 < 12 by omega) ((congrFun (put_F (by omega)) 4).trans (hD.pm.hd 4 (by omega)))
  have v3 := hRa.frozen ba 4
  have s13 := hD.rep.lt hD.b13
  have s11 := hD.rep.lt hD.b11
  have fin := hD.pushp (i := 4) (by omega) (by omega) (hD.grew.alloc _).drew hRa hGa (hD.pm.push_free ((x.sl i : Nat) : Int) (some gn) kn)
  have fin : Hid (∃ M4 P4, DMe x vis PB L (i + 1) 0 M4 P4 (wa.setCell ⟨x.p, 4, none⟩ (.slice (some ⟨gn, 0, none⟩) (M2.n 4 + 1) kn))) := ⟨_, _, fin, by rw [set_val, put_val (by omega)]; exact v12, (i12.put_ne (by omega)).set_ne (by omega), dc.next⟩
  unfold Fam.val at x2 hr v2
  have HR : Hid ((Builtin.append_ #[26, 26] 26 #[.slice (Option.map (fun g => (⟨g, 0, none⟩ : Addr)) (M2.b 4)) (M2.n 4) (M2.cap 4), .slice (some ⟨wc.heap.size, 0, none⟩) 1 1]).run Try.prog ((wc.alloc (.cells #[.int .i64 ((x.sl i : Nat) : Int)] 3)).drew) = .ok (.slice (some ⟨gn, 0, none⟩) (M2.n 4 + 1) kn) wa) := hr
  clear hRa hGa ba b3a hr hD v12 i12 dc
  generalize Option.map (fun g => (⟨g, 0, none⟩ : Addr)) (M2.b 4) = af at *
  generalize M2.n 4 = nf at *
  generalize M2.cap 4 = kf at *
  have FK : Hid (∀ k w'', k ≤ 2 → C3 wc.drew ((wc.alloc (.cells #[.int .i64 ((x.sl i : Nat) : Int)] 3)).drew) wa (wa.setCell ⟨x.p, 4, none⟩ (.slice (some ⟨gn, 0, none⟩) (nf + 1) kn)) k w'' → w''.cell? ⟨x.q13, 0, none⟩ = some (.pointer (some ⟨x.p, 0, none⟩)) ∧ w''.cell? ⟨x.p, 4, none⟩ = some (.slice af nf kf)) := by
    intro k w'' hk hw
    match k, hk with
    | 0, _ =>
      have hw : w'' = wc.drew := hw
      subst hw
      exact ⟨x1, x2⟩
    | 1, _ =>
      have hw : w'' = ((wc.alloc (.cells #[.int .i64 ((x.sl i : Nat) : Int)] 3)).drew) := hw
      subst hw
      rw [cell_alloc_drew s13, cell_alloc_drew s11]
      exact ⟨x1, x2⟩
    | 2, _ =>
      have hw : w'' = wa := hw
      subst hw
      exact ⟨v1, v2⟩
  refine wp_region_stage (C3 wc.drew ((wc.alloc (.cells #[.int .i64 ((x.sl i : Nat) : Int)] 3)).drew) wa (wa.setCell ⟨x.p, 4, none⟩ (.slice (some ⟨gn, 0, none⟩) (nf + 1) kn))) [6, 7, 10] (fun i => if i = 0 then 2 else if i < 5 then 1 else if i < 6 then 0 else 2) (by kernel_rfl) (by kernel_rfl) (rfl) ?_
  refine wpStage_read rfl rfl ?_
  apply Exists.intro
  refine ⟨fun k w' hk hw => ?_, ?_⟩
  · obtain ⟨y1, y2⟩ := FK.out k w' hk hw
    go_simp
    first | rfl | exact ⟨rfl, hw⟩
  go_simp
  refine wpStage_read rfl rfl ?_
  apply Exists.intro
  refine ⟨fun k w' hk hw => ?_, ?_⟩
  · obtain ⟨y1, y2⟩ := FK.out k w' (Nat.le_succ_of_le hk) hw
    go_simp
    first | rfl | exact ⟨rfl, hw⟩
  go_simp
  refine wpStage_read rfl rfl ?_
  apply Exists.intro
  refine ⟨fun k w' hk hw => ?_, ?_⟩
  · go_simp
    first | rfl | exact ⟨rfl, hw⟩
  go_simp
  refine wpStage_read rfl rfl ?_
  apply Exists.intro
  refine ⟨fun k w' hk hw => ?_, ?_⟩
  · go_simp
    first | rfl | exact ⟨rfl, hw⟩
  go_simp
  refine wpStage_read rfl rfl ?_
  apply Exists.intro
  refine ⟨fun k w' hk hw => ?_, ?_⟩
  · obtain ⟨y1, y2⟩ := FK.out k w' (Nat.le_succ_of_le hk) hw
    go_simp
    first | rfl | exact ⟨rfl, hw⟩
  go_simp
  refine wpStage_read rfl rfl ?_
  apply Exists.intro
  refine ⟨fun k w' hk hw => ?_, ?_⟩
  · go_simp
    first | rfl | exact ⟨rfl, hw⟩
  go_simp
  refine wpStage_move rfl rfl ?_
  apply Exists.intro
  refine ⟨fun w' hw => ?_, ?_⟩
  · have hw : w' = wc.drew := hw
    subst hw
    go_simp
    first | rfl | exact ⟨rfl, rfl⟩
  go_simp
  refine wpStage_move rfl rfl ?_
  apply Exists.intro
  refine ⟨fun w' hw => ?_, ?_⟩
  · have hw : w' = ((wc.alloc (.cells #[.int .i64 ((x.sl i : Nat) : Int)] 3)).drew) := hw
    subst hw
    exact yTo_append (.tmp 373) (.tmp 375) 26 rfl (by simp [Act.eval]) (by simp [Act.eval]) HR.out rfl
  go_simp
  refine wpStage_read rfl rfl ?_
  apply Exists.intro
  refine ⟨fun k w' hk hw => ?_, ?_⟩
  · go_simp
    first | rfl | exact ⟨rfl, hw⟩
  go_simp
  refine wpStage_read rfl rfl ?_
  apply Exists.intro
  refine ⟨fun k w' hk hw => ?_, ?_⟩
  · go_simp
    first | rfl | exact ⟨rfl, hw⟩
  go_simp
  refine wpStage_move rfl rfl ?_
  apply Exists.intro
  refine ⟨fun w' hw => ?_, ?_⟩
  · have hw : w' = wa := hw
    subst hw
    go_simp
    first | rfl | exact ⟨rfl, rfl⟩
  go_simp
  intro we hw0
  have hw : we = (wa.setCell ⟨x.p, 4, none⟩ (.slice (some ⟨gn, 0, none⟩) (nf + 1) kn)) := hw0
  clear hw0
  rw [← hw] at fin
  clear hw FK
  obtain ⟨M4, P4, hfin⟩ := fin.out
  exact HC.out _ _ M4 P4 ⟨⟨by kernel_rfl, by kernel_rfl, by kernel_rfl, by kernel_rfl, by kernel_rfl⟩, by kernel_rfl, by kernel_rfl, by kernel_rfl⟩ hfin

def L6I (x : DX) (vis : Int) (PB : PS) (L : LS) (a : Act) (w : World) : Prop :=
  ∃ i, FE6 x i a ∧ i ≤ x.n ∧ ∃ M2 P2, DMe x vis PB L i 0 M2 P2 w
def mu323 (n : Nat) (a : Act) : Nat := n - (intOf (a.tmps.getD 323 undef)).toNat

set_option maxRecDepth 40000 in
set_option maxHeartbeats 8000000 in
/-- All slots are handed back. -/
theorem dw_c6 (x : DX) (vis : Int) (PB : PS) (L : LS) (a : Act) (w : World) (M' : Fam) (hf : FE1 x a) (hD : DIn x.w x.M x.p x.q13 x.q14 vis w M' PB) (v12 : M'.val 12 = .slice x.a12 x.n x.k12) (i12 : Ints M' 12 x.n (fun j => ((x.sl j : Nat) : Int))) (hB : DB x PB L) (hgo : DGo x.P x.c x.n x.sl) (Q : Exit → Act → World → Prop)
    (hC : ∀ (a : Act) (w' : World) (M2 : Fam) (P2 : PS), FE1 x a → DIn x.w x.M x.p x.q13 x.q14 vis w' M2 P2 → DC x PB L x.n 0 P2 → Q .normal a w') :
    Code.wp Try.prog (sL (tl 8 (Try.f28.body.getD .skip))) Q a w := by
  obtain ⟨y, rfl⟩ := lite1 hf
  have start : Hid (∃ M2 P2, DMe x vis PB L 0 0 M2 P2 w) := ⟨M', PB, hD, v12, i12, DC.start x PB L⟩
  have HB : Hid (DB x PB L) := hB
  have HG : Hid (DGo x.P x.c x.n x.sl) := hgo
  have hn1 := hgo.n1
  have HC : Hid (∀ (a : Act) (w' : World) (M2 : Fam) (P2 : PS), FE1 x a → DIn x.w x.M x.p x.q13 x.q14 vis w' M2 P2 → DC x PB L x.n 0 P2 → Q .normal a w') := hC
  clear hf hD v12 i12 hB hgo hC
  show Code.wp Try.prog (Code.seq _ (Code.block 11 (Code.loop (Code.seq _ (Code.seq (Code.cond (.tmp 324) Code.skip (Code.exit 11)) (Code.seq (Code.block 12 (dB12 (Try.f28.body.getD .skip))) _)))))) Q _ w
  refine wp_seq_k (fun K1 hK => ?_)
  have HK : Hid (∀ (a : Act) (w : World), _ → K1 a w) := hK
  clear hK
  go_wp2
  refine HK.out _ _ ?_
  clear HK K1
  refine wp_block ?_
  refine wp_loop (L6I x vis PB L) (fun a _ => mu323 x.n a) ⟨0, ⟨⟨by kernel_rfl, by kernel_rfl, by kernel_rfl, by kernel_rfl, by kernel_rfl⟩, by kernel_rfl, by kernel_rfl, by kernel_rfl⟩, Nat.zero_le _, start.out⟩ ?_
  clear start
  rintro a w' ⟨i, hf, i1, M2, P2, hM⟩
  have e323 : mu323 x.n a = x.n - i := congrArg (fun v => x.n - (intOf v).toNat) hf.s323
  obtain ⟨y2, rfl⟩ := lite6 hf.fe hf.s321 hf.s322 hf.s323
  rw [e323]
  clear e323 hf
  refine wp_seq_k (fun K1 hK => ?_)
  have HK : Hid (∀ (a : Act) (w : World), _ → K1 a w) := hK
  clear hK
  have HM : Hid (DMe x vis PB L i 0 M2 P2 w') := hM
  clear hM
  by_cases hi : i < x.n
  · have hii : (i : Int) < (x.n : Int) := by omega
    go_wp2
    refine HK.out _ _ ?_
    clear HK K1
    refine wp_seq_k (fun K1 hK => ?_)
    have HK : Hid (∀ (a : Act) (w : World), _ → K1 a w) := hK
    clear hK
    refine wp_cond_true (by kernel_rfl) (wp_skip ?_)
    refine HK.out _ _ ?_
    clear HK K1
    refine wp_seq_k (fun K1 hK => ?_)
    have HK : Hid (∀ (a : Act) (w : World), Code.wp Try.prog _ _ a w → K1 a w) := hK
    clear hK
    refine wp_block ?_
    have nxt : ∀ (a : Act) (w' : World) (M2 : Fam) (P2 : PS), FE6 x i a → DMe x vis PB L (i + 1) 0 M2 P2 w' → K1 a w' := by
      intro a w' M2 P2 hf hM
      refine HK.out _ _ ?_
      have HM : Hid (∃ M2 P2, DMe x vis PB L (i + 1) 0 M2 P2 w') := ⟨M2, P2, hM⟩
      obtain ⟨y3, rfl⟩ := lite6 hf.fe hf.s321 hf.s322 hf.s323
      clear hM hf HK
      go_wp2
      exact ⟨⟨i + 1, ⟨⟨by kernel_rfl, by kernel_rfl, by kernel_rfl, by kernel_rfl, by kernel_rfl⟩, by kernel_rfl, by kernel_rfl, by kernel_rfl⟩, by omega, HM.out⟩, Nat.lt_of_le_of_lt (Nat.le_of_eq (by kernel_rfl : _ = x.n - (i + 1))) (by omega)⟩
    refine dw_r45 x vis PB L i _ w' M2 P2 ⟨⟨by kernel_rfl, by kernel_rfl, by kernel_rfl, by kernel_rfl, by kernel_rfl⟩, by kernel_rfl, by kernel_rfl, by kernel_rfl⟩ hi HM.out _ ?_
    intro a hf h20
    refine dw_c7 x vis PB L i a w' M2 P2 hf h20 hi HM.out HB.out HG.out _ ?_
    intro a w2 M3 P3 hf h20 hM3
    exact dw_c8 x vis PB L i a w2 M3 P3 hf h20 hi hn1 hM3 HB.out _ nxt
  · have hii : ¬ (i : Int) < (x.n : Int) := by omega
    obtain rfl : i = x.n := by omega
    go_wp2
    refine HK.out _ _ ?_
    refine wp_seq_k (fun K4 hK => ?_)
    refine wp_cond_false (by kernel_rfl) (wp_exit ?_)
    exact HC.out _ _ M2 P2 ⟨by kernel_rfl, by kernel_rfl, by kernel_rfl, by kernel_rfl, by kernel_rfl⟩ HM.out.din HM.out.dc

set_option maxRecDepth 40000 in
set_option maxHeartbeats 8000000 in
/-- Region 55: the component is handed back. -/
theorem dw_last (x : DX) (vis : Int) (a : Act) (wr : World) (M2 : Fam) (P2 : PS) (hf : FE1 x a) (hD : DIn x.w x.M x.p x.q13 x.q14 vis wr M2 P2) (hU : P2.nU ≤ 1000000) (Z : World → Prop) (hC : ∀ (w' : World) (M4 : Fam), DIn x.w x.M x.p x.q13 x.q14 vis w' M4 (P2.giveC (x.c : Int)) → Z w') :
    Code.wp Try.prog (tl 9 (Try.f28.body.getD .skip)) (bodyPost Try.prog Try.f28 fun e w' => e = .returned (.tuple #[]) ∧ Z w') a wr := by
  obtain ⟨i3, hi3, hz30, hz31, hz32⟩ := info_parts Try.info3
  obtain ⟨y, rfl⟩ := lite1 hf
  have l6 : M2.n 6 ≤ 1000000 := by rw [hD.pm.unused.1]; exact hU
  have HC : Hid (∀ (w' : World) (M4 : Fam), DIn x.w x.M x.p x.q13 x.q14 vis w' M4 (P2.giveC (x.c : Int)) → Z w') := hC
  clear hC hf hU
  simp only [tl, Try.f28, Option.getD]
  have x1 := hD.box
  have x2 := hD.pm.hdr hD.rep hD.b11 (show 6 < 11 by omega)
  obtain ⟨gn, kn, wa, hr, hRa, hGa⟩ := run_append_row (P := Try.prog) (hD.rep.alloc (.cells #[.int .i64 (x.c : Int)] 3)).drew 6 26 26 3 i3 (.int .i64 0) 1 8 rfl Try.underlying26 hi3 hz30 hz31 hz32 rfl (by decide) ⟨wr.heap.size, 0, none⟩ 1 [.int .i64 (x.c : Int)] rfl (news1' wr _ _ _ rfl) (by simp [Value.oneCell']) (by omega) (by decide)
  have ba : (M2.put 6 (some gn) (M2.n 6 + 1) kn (ext (M2.F 6) (M2.n 6 * 1) [.int .i64 (x.c : Int)])).b 11 = some x.p := (put_b (by omega)).trans hD.b11
  have b3a : (M2.put 6 (some gn) (M2.n 6 + 1) kn (ext (M2.F 6) (M2.n 6 * 1) [.int .i64 (x.c : Int)])).b 13 = some x.q13 := (put_b (by omega)).trans hD.b13
  have v1 := (hRa.cell b3a (j := 0) (by rw [put_n (by omega), hD.n13]; decide)).trans (congrArg some ((congrFun (put_F (by omega)) 0).trans hD.f13))
  have v2 := pcell hRa ba ((put_n (by omega)).trans hD.pm.p) (show 6 < 12 by omega) ((congrFun (put_F (by omega)) 6).trans (hD.pm.hd 6 (by omega)))
  have v3 := hRa.frozen ba 6
  have s13 := hD.rep.lt hD.b13
  have s11 := hD.rep.lt hD.b11
  have fin := hD.pushp (i := 6) (by omega) (by omega) (hD.grew.alloc _).drew hRa hGa (hD.pm.push_unused (x.c : Int) (some gn) kn)
  have fin : Hid (∃ M4, DIn x.w x.M x.p x.q13 x.q14 vis (wa.setCell ⟨x.p, 6, none⟩ (.slice (some ⟨gn, 0, none⟩) (M2.n 6 + 1) kn)) M4 (P2.giveC (x.c : Int))) := ⟨_, fin⟩
  unfold Fam.val at x2 hr v2
  have HR : Hid ((Builtin.append_ #[26, 26] 26 #[.slice (Option.map (fun g => (⟨g, 0, none⟩ : Addr)) (M2.b 6)) (M2.n 6) (M2.cap 6), .slice (some ⟨wr.heap.size, 0, none⟩) 1 1]).run Try.prog ((wr.alloc (.cells #[.int .i64 (x.c : Int)] 3)).drew) = .ok (.slice (some ⟨gn, 0, none⟩) (M2.n 6 + 1) kn) wa) := hr
  clear hRa hGa ba b3a hr hD
  generalize Option.map (fun g => (⟨g, 0, none⟩ : Addr)) (M2.b 6) = af at *
  generalize M2.n 6 = nf at *
  generalize M2.cap 6 = kf at *
  have FK : Hid (∀ k w'', k ≤ 2 → C3 wr.drew ((wr.alloc (.cells #[.int .i64 (x.c : Int)] 3)).drew) wa (wa.setCell ⟨x.p, 6, none⟩ (.slice (some ⟨gn, 0, none⟩) (nf + 1) kn)) k w'' → w''.cell? ⟨x.q13, 0, none⟩ = some (.pointer (some ⟨x.p, 0, none⟩)) ∧ w''.cell? ⟨x.p, 6, none⟩ = some (.slice af nf kf)) := by
    intro k w'' hk hw
    match k, hk with
    | 0, _ =>
      have hw : w'' = wr.drew := hw
      subst hw
      exact ⟨x1, x2⟩
    | 1, _ =>
      have hw : w'' = ((wr.alloc (.cells #[.int .i64 (x.c : Int)] 3)).drew) := hw
      subst hw
      rw [cell_alloc_drew s13, cell_alloc_drew s11]
      exact ⟨x1, x2⟩
    | 2, _ =>
      have hw : w'' = wa := hw
      subst hw
      exact ⟨v1, v2⟩
  refine wp_region_stage (C3 wr.drew ((wr.alloc (.cells #[.int .i64 (x.c : Int)] 3)).drew) wa (wa.setCell ⟨x.p, 6, none⟩ (.slice (some ⟨gn, 0, none⟩) (nf + 1) kn))) [6, 7, 10] (fun i => if i = 0 then 2 else if i < 5 then 1 else if i < 6 then 0 else 2) (by kernel_rfl) (by kernel_rfl) (rfl) ?_
  refine wpStage_read rfl rfl ?_
  apply Exists.intro
  refine ⟨fun k w' hk hw => ?_, ?_⟩
  · obtain ⟨y1, y2⟩ := FK.out k w' hk hw
    go_simp
    first | rfl | exact ⟨rfl, hw⟩
  go_simp
  refine wpStage_read rfl rfl ?_
  apply Exists.intro
  refine ⟨fun k w' hk hw => ?_, ?_⟩
  · obtain ⟨y1, y2⟩ := FK.out k w' (Nat.le_succ_of_le hk) hw
    go_simp
    first | rfl | exact ⟨rfl, hw⟩
  go_simp
  refine wpStage_read rfl rfl ?_
  apply Exists.intro
  refine ⟨fun k w' hk hw => ?_, ?_⟩
  · go_simp
    first | rfl | exact ⟨rfl, hw⟩
  go_simp
  refine wpStage_read rfl rfl ?_
  apply Exists.intro
  refine ⟨fun k w' hk hw => ?_, ?_⟩
  · go_simp
    first | rfl | exact ⟨rfl, hw⟩
  go_simp
  refine wpStage_read rfl rfl ?_
  apply Exists.intro
  refine ⟨fun k w' hk hw => ?_, ?_⟩
  · obtain ⟨y1, y2⟩ := FK.out k w' (Nat.le_succ_of_le hk) hw
    go_simp
    first | rfl | exact ⟨rfl, hw⟩
  go_simp
  refine wpStage_read rfl rfl ?_
  apply Exists.intro
  refine ⟨fun k w' hk hw => ?_, ?_⟩
  · go_simp
    first | rfl | exact ⟨rfl, hw⟩
  go_simp
  refine wpStage_move rfl rfl ?_
  apply Exists.intro
  refine ⟨fun w' hw => ?_, ?_⟩
  · have hw : w' = wr.drew := hw
    subst hw
    go_simp
    first | rfl | exact ⟨rfl, rfl⟩
  go_simp
  refine wpStage_move rfl rfl ?_
  apply Exists.intro
  refine ⟨fun w' hw => ?_, ?_⟩
  · have hw : w' = ((wr.alloc (.cells #[.int .i64 (x.c : Int)] 3)).drew) := hw
    subst hw
    exact yTo_append (.tmp 384) (.tmp 386) 26 rfl (by simp [Act.eval]) (by simp [Act.eval]) HR.out rfl
  go_simp
  refine wpStage_read rfl rfl ?_
  apply Exists.intro
  refine ⟨fun k w' hk hw => ?_, ?_⟩
  · go_simp
    first | rfl | exact ⟨rfl, hw⟩
  go_simp
  refine wpStage_read rfl rfl ?_
  apply Exists.intro
  refine ⟨fun k w' hk hw => ?_, ?_⟩
  · go_simp
    first | rfl | exact ⟨rfl, hw⟩
  go_simp
  refine wpStage_move rfl rfl ?_
  apply Exists.intro
  refine ⟨fun w' hw => ?_, ?_⟩
  · have hw : w' = wa := hw
    subst hw
    go_simp
    first | rfl | exact ⟨rfl, rfl⟩
  go_simp
  intro we hw0
  have hw : we = (wa.setCell ⟨x.p, 6, none⟩ (.slice (some ⟨gn, 0, none⟩) (nf + 1) kn)) := hw0
  clear hw0
  rw [← hw] at fin
  clear hw FK
  obtain ⟨M4, hfin⟩ := fin.out
  have HZ : Hid (Z we) := HC.out we M4 hfin
  clear hfin fin HC
  go_wp2
  go_end0
  exact ⟨rfl, HZ.out⟩

/-- What 'divide' leaves. -/
def DDn (w : World) (M : Fam) (P : PS) (p c n : Nat) (sl : Nat → Nat) (w' : World) : Prop :=
  ∃ M' PF, Rep KP w' M' ∧ PM M' PF ∧ Grew M w M' w' ∧ LocX XD M M' ∧ DEnd ⟨w, M, p, w.heap.size, w.heap.size + 1, P, c, n, sl, Option.map (fun g => (⟨g, 0, none⟩ : Addr)) (M.b (61 + 3 * c)), M.cap (61 + 3 * c)⟩ PF

set_option maxRecDepth 40000 in
set_option maxHeartbeats 8000000 in
/-- 'divide'. -/
theorem divide_calls (w : World) (M : Fam) (P : PS) (p c n : Nat) (sl : Nat → Nat) (hR : Rep KP w M) (hM : PM M P) (hp : M.b 11 = some p) (hgo : DGo P c n sl) :
    Calls Try.prog 28 #[.pointer (some ⟨p, 0, none⟩), .int .i64 (c : Int)] w fun e w' => e = .returned (.tuple #[]) ∧ DDn w M P p c n sl w' := by
  refine calls_of_wp (c := Try.f28.body.getD .skip) Try.func28 rfl ?_
  have hfr : ({ tmps := #[.pointer (some ⟨p, 0, none⟩), .int .i64 (c : Int)] ++ Array.replicate (Try.f28.ntmps - (#[.pointer (some ⟨p, 0, none⟩), .int .i64 (c : Int)] : Array Value).size) undef, defers := [] } : Act) = { tmps := #[.pointer (some ⟨p, 0, none⟩), .int .i64 (c : Int), undef, undef, undef, undef, undef, undef, undef, undef, undef, undef, undef, undef, undef, undef, undef, undef, undef, undef, undef, undef, undef, undef, undef, undef, undef, undef, undef, undef, undef, undef, undef, undef, undef, undef, undef, undef, undef, undef, undef, undef, undef, undef, undef, undef, undef, undef, undef, undef, undef, undef, undef, undef, undef, undef, undef, undef, undef, undef, undef, undef, undef, undef, undef, undef, undef, undef, undef, undef, undef, undef, undef, undef, undef, undef, undef, undef, undef, undef, undef, undef, undef, undef, undef, undef, undef, undef, undef, undef, undef, undef, undef, undef, undef, undef, undef, undef, undef, undef, undef, undef, undef, undef, undef, undef, undef, undef, undef, undef, undef, undef, undef, undef, undef, undef, undef, undef, undef, undef, undef, undef, undef, undef, undef, undef, undef, undef, undef, undef, undef, undef, undef, undef, undef, undef, undef, undef, undef, undef, undef, undef, undef, undef, undef, undef, undef, undef, undef, undef, undef, undef, undef, undef, undef, undef, undef, undef, undef, undef, undef, undef, undef, undef, undef, undef, undef, undef, undef, undef, undef, undef, undef, undef, undef, undef, undef, undef, undef, undef, undef, undef, undef, undef, undef, undef, undef, undef, undef, undef, undef, undef, undef, undef, undef, undef, undef, undef, undef, undef, undef, undef, undef, undef, undef, undef, undef, undef, undef, undef, undef, undef, undef, undef, undef, undef, undef, undef, undef, undef, undef, undef, undef, undef, undef, undef, undef, undef, undef, undef, undef, undef, undef, undef, undef, undef, undef, undef, undef, undef, undef, undef, undef, undef, undef, undef, undef, undef, undef, undef, undef, undef, undef, undef, undef, undef, undef, undef, undef, undef, undef, undef, undef, undef, undef, undef, undef, undef, undef, undef, undef, undef, undef, undef, undef, undef, undef, undef, undef, undef, undef, undef, undef, undef, undef, undef, undef, undef, undef, undef, undef, undef, undef, undef, undef, undef, undef, undef, undef, undef, undef, undef, undef, undef, undef, undef, undef, undef, undef, undef, undef, undef, undef, undef, undef, undef, undef, undef, undef, undef, undef, undef, undef, undef, undef, undef, undef, undef, undef, undef, undef, undef, undef, undef, undef, undef, undef, undef, undef, undef, undef, undef, undef, undef, undef, undef, undef, undef, undef, undef, undef, undef, undef, undef, undef, undef, undef, undef, undef, undef, undef, undef, undef, undef, undef, undef, undef, undef, undef, undef, undef, undef, undef, undef, undef, undef, undef, undef, undef, undef, undef, undef, undef, undef, undef, undef, undef, undef, undef, undef], defers := [] } := by kernel_rfl
  rw [hfr]
  clear hfr
  have hA := dw_pre w M P p c n sl hR hM hp hgo (fun _ => undef) (tl 6 (Try.f28.body.getD .skip)) (DDn w M P p c n sl) ?_
  · rw [rt_tl] at hA
    exact hA
  intro a w1 v7 hf0 hd0
  have e6 : tl 6 (Try.f28.body.getD .skip) = Code.seq (dRT (Try.f28.body.getD .skip)) (tl 7 (Try.f28.body.getD .skip)) := by kernel_rfl
  have e7 : tl 7 (Try.f28.body.getD .skip) = Code.seq (sL (tl 7 (Try.f28.body.getD .skip))) (tl 8 (Try.f28.body.getD .skip)) := by kernel_rfl
  have e8 : tl 8 (Try.f28.body.getD .skip) = Code.seq (sL (tl 8 (Try.f28.body.getD .skip))) (tl 9 (Try.f28.body.getD .skip)) := by kernel_rfl
  unfold DDn
  generalize hxx : (⟨w, M, p, w.heap.size, w.heap.size + 1, P, c, n, sl, Option.map (fun g => (⟨g, 0, none⟩ : Addr)) (M.b (61 + 3 * c)), M.cap (61 + 3 * c)⟩ : DX) = x at *
  have hgx : DGo x.P x.c x.n x.sl := by rw [← hxx]; exact hgo
  rw [e6]
  refine wp_seq ?_
  refine dw_rt x v7 a w1 hf0 hd0 hgx _ ?_
  intro a w2 v7 v39 hf hd
  obtain ⟨s, K, ln, ls, lk, PA, M2, hS, hPl, rfl, hm⟩ := hd
  have hl := done_DL hgx hS.dr hS.inv hPl hm
  have hKb : K ≤ 99999990 := by
    have h1 := hPl.kb
    have h2 := hPl.vis_le hgx.n1 (Nat.le_refl _)
    omega
  have hv : M2.val 15 = .slice (Option.map (fun g => (⟨g, 0, none⟩ : Addr)) (M2.b 15)) K (M2.cap 15) := by unfold Fam.val; rw [hS.st.1]
  have kp := hS.kp
  rw [hv] at hf kp
  rw [e7]
  refine wp_seq ?_
  refine dw_splits x PA K ln ls ((s.vis : Nat) : Int) _ _ v39 a w2 M2 hf hS.din kp hl hKb _ ?_
  intro a w3 M3 PB L hf hD v12 i12 dv
  have hB := dv.db hl hgx hS.dr
  rw [e8]
  refine wp_seq ?_
  refine dw_c6 x _ PB L a w3 M3 hf hD v12 i12 hB hgx _ ?_
  intro a w4 M4 P6 hf hD6 dc
  obtain ⟨f0, t0, o0, n0, r0, e0⟩ := dc.eq
  have nU6 : P6.nU = PB.nU := by rw [e0]; rfl
  refine dw_last x _ a w4 M4 P6 hf hD6 (by rw [nU6]; have := hB.nU; omega) _ ?_
  intro w5 M5 hD7
  have hw : x.w = w := by rw [← hxx]
  have hM' : x.M = M := by rw [← hxx]
  refine ⟨M5, _, hD7.rep, hD7.pm, ?_, ?_, ⟨s, K, ln, ls, lk, PA, PB, L, P6, hS.inv, hPl, hm, hS.dr, hl, dv, dc, rfl⟩⟩
  · rw [← hw, ← hM']; exact hD7.grew
  · rw [← hM']; exact hD7.loc
end Go.Proofs.Qxb6602148a
