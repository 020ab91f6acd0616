/-
  'zzOrdersMembers'.
-/
import Derived.Test.Qxb6602148aLm
attribute [local go_sem] Go.Proofs.Qxb6602148a.yTo Go.Proofs.Qxb6602148a.yUpon
namespace Go.Proofs.Qxb6602148a
open Go.RowKit
set_option linter.unusedVariables false
set_option linter.unusedSimpArgs false

def RetO (w0 : World) (P : PS) (c n : Nat) (z : Nat → Int) (e : Ending) (w' : World) : Prop := ∃ b : Bool, e = .returned (.bool b) ∧ (b = true → n = P.mn c ∧ ∃ str : Nat → Nat, (∀ i, i < n → z i = ((str i : Nat) : Int)) ∧ Ord P c str) ∧ Grew Fam.nil w0 Fam.nil w'
theorem Tm.grew {wb w w0 : World} {P : PS} {g8 : Nat} {mk : Nat → Int} (h : Tm wb P g8 mk w) (hw : Grew Fam.nil w0 Fam.nil wb) : Grew Fam.nil w0 Fam.nil w := by
  obtain ⟨D, d1, _⟩ := h
  exact hw.trans d1.grew.to_nil

set_option maxRecDepth 40000 in
set_option maxHeartbeats 4000000 in
/-- The list is looked through. -/
theorem om_2 (w0 wb : World) (P : PS) (c : Nat) (om : Option Addr) (km : Nat) (os : Option Addr) (n ks g8 : Nat) (z : Nat → Int) (hw : Grew Fam.nil w0 Fam.nil wb) (hin : OIn wb P c om km os n ks z) (wr : World) (mk : Nat → Int) (hT : Tm wb P g8 mk wr) (hO : OM P c z 0 mk) (a : Act) (hf : F20 om (P.mn c) km os n ks g8 P.nS a) :
    Code.wp Try.prog (tl 5 (Try.f20.body.getD .skip)) (bodyPost Try.prog Try.f20 fun e w' => RetO w0 P c n z e w') a wr := by
  obtain ⟨y, rfl⟩ := lo hf.sz hf.df hf.s2 hf.s7 hf.s8
  obtain ⟨hS, hM, hn⟩ := hin.sm
  have hn2 : n ≤ 1000000 := by omega
  have HN : Hid (n = P.mn c) := hn
  have HIN : Hid (OIn wb P c om km os n ks z) := hin
  have HW : Hid (Grew Fam.nil w0 Fam.nil wb) := hw
  have HT : Hid (Tm wb P g8 mk wr) := hT
  have HO : Hid (OM P c z 0 mk) := hO
  clear hf hin hT hn hO hw
  show Code.wp Try.prog (Code.seq (Code.seq _ (Code.block 2 (Code.loop (Code.seq (Code.seq _ (Code.cond (.tmp 51) Code.skip (Code.exit 2))) (Code.seq (Code.block 3 (Code.seq _ (Code.seq (Code.seq _ (Code.cond (.tmp 72) (Code.seq _ _) Code.skip)) _))) _))))) (tl 6 (Try.f20.body.getD .skip))) _ _ wr
  refine wp_seq_k (fun K9 hK => ?_)
  have HK9 : Hid (∀ (a : Act) (w : World), _ → K9 a w) := hK
  clear hK
  refine wp_seq_k (fun K1 hK => ?_)
  have HK1 : Hid (∀ (a : Act) (w : World), _ → K1 a w) := hK
  clear hK
  go_wp2
  refine HK1.out _ _ ?_
  clear HK1 K1
  refine wp_block ?_
  refine wp_loop (Lo2 wb P c om km os n ks g8 z) (fun a _ => mus 11 n a) ⟨⟨by kernel_rfl, by kernel_rfl, by kernel_rfl, by kernel_rfl, by kernel_rfl⟩, 0, mk, by kernel_rfl, Nat.zero_le _, HT.out, HO.out⟩ ?_
  clear HT y HO mk
  rintro a w' ⟨hf, i, mk, h11, i1, hT, hO⟩
  have e11 : mus 11 n a = n - i := congrArg (fun v => n - (intOf v).toNat) h11
  obtain ⟨y2, rfl⟩ := lo11 hf.sz hf.df hf.s2 hf.s7 hf.s8 h11
  rw [e11]
  clear e11 hf h11
  refine wp_seq_k (fun K1 hK => ?_)
  have HK1 : Hid (∀ (a : Act) (w : World), _ → K1 a w) := hK
  clear hK
  refine wp_seq_k (fun K2 hK => ?_)
  have HK2 : Hid (∀ (a : Act) (w : World), _ → K2 a w) := hK
  clear hK
  by_cases hi : i < n
  · have hii : (i : Int) < (n : Int) := by omega
    obtain ⟨b, rfl, m1, m2⟩ := HIN.out.s i hi
    have HGR : Hid (Grew Fam.nil w0 Fam.nil w') := hT.grew HW.out
    obtain ⟨D, d1, d2⟩ := hT
    have x1 := d1.grew.cell m2
    have bad : Hid (RetO w0 P c n z (.returned (.bool false)) w') := ⟨false, rfl, fun h => absurd h (by simp), HGR.out⟩
    go_wp2
    refine HK2.out _ _ (wp_cond_true (by kernel_rfl) (wp_skip ?_))
    refine HK1.out _ _ ?_
    clear HK1 K1 HK2 K2 m2
    refine wp_seq_k (fun K1 hK => ?_)
    have HK1 : Hid (∀ (a : Act) (w : World), _ → K1 a w) := hK
    clear hK
    refine wp_block ?_
    by_cases h0 : z i < 0
    · have dg : decide (z i < 0) = true := decide_eq_true h0
      clear d1 d2 hO
      generalize z i = zi at *
      refine wp_seq_k (fun K2 hK => ?_)
      have HK2 : Hid (∀ (a : Act) (w : World), _ → K2 a w) := hK
      clear hK
      go_wp2
      refine HK2.out _ _ ?_
      clear HK2 K2
      refine wp_seq_k (fun K2 hK => ?_)
      have HK2 : Hid (∀ (a : Act) (w : World), _ → K2 a w) := hK
      clear hK
      refine wp_seq_k (fun K3 hK => ?_)
      have HK3 : Hid (∀ (a : Act) (w : World), _ → K3 a w) := hK
      clear hK
      go_wp2
      refine HK3.out _ _ (wp_cond_true (by kernel_rfl) ?_)
      clear HK3 K3 HK2 HK1 HK9 x1
      go_wp2
      go_ret
      exact bad.out
    · obtain ⟨s, hs⟩ : ∃ s : Nat, z i = (s : Int) := ⟨(z i).toNat, by omega⟩
      rw [hs] at x1
      by_cases h1 : s < P.nS
      · have hss : (s : Int) < (P.nS : Int) := by omega
        have z1 := d2.cell d1 rfl h1
        have z2 := d2.frozen d1 s
        by_cases h2 : mk s = 1
        · rw [h2] at z1
          have fin : Hid (∃ mk, Tm wb P g8 mk (w'.setCell ⟨g8, s, none⟩ (.int .i64 2)) ∧ OM P c z (i + 1) mk) := ⟨_, ⟨_, d1.set d2.1 s _, d2.set s 2⟩, hO.next hs h2⟩
          clear d1 d2 hO h2 hs h0
          refine wp_seq_k (fun K2 hK => ?_)
          have HK2 : Hid (∀ (a : Act) (w : World), _ → K2 a w) := hK
          clear hK
          go_wp2
          refine HK2.out _ _ ?_
          clear HK2 K2
          refine wp_seq_k (fun K2 hK => ?_)
          have HK2 : Hid (∀ (a : Act) (w : World), _ → K2 a w) := hK
          clear hK
          go_wp2
          refine HK2.out _ _ ?_
          clear HK2 K2
          go_wp2
          refine HK1.out _ _ ?_
          clear HK1 K1 z1 z2 x1
          generalize w'.setCell ⟨g8, s, none⟩ (.int .i64 2) = wv at *
          go_wp2
          obtain ⟨mk', f1, f2⟩ := fin.out
          exact ⟨⟨⟨by kernel_rfl, by kernel_rfl, by kernel_rfl, by kernel_rfl, by kernel_rfl⟩, i + 1, mk', by kernel_rfl, by omega, f1, f2⟩, Nat.lt_of_le_of_lt (Nat.le_of_eq (by kernel_rfl : _ = n - (i + 1))) (by omega)⟩
        · have hne : (mk s == 1) = false := by rw [beq_eq_false_iff_ne]; exact h2
          have hne2 : (mk s != 1) = true := by simpa using h2
          clear d1 d2 hO h2 hs h0
          generalize mk s = ms at *
          refine wp_seq_k (fun K2 hK => ?_)
          have HK2 : Hid (∀ (a : Act) (w : World), _ → K2 a w) := hK
          clear hK
          go_wp2
          refine HK2.out _ _ ?_
          clear HK2 K2
          refine wp_seq_k (fun K2 hK => ?_)
          have HK2 : Hid (∀ (a : Act) (w : World), _ → K2 a w) := hK
          clear hK
          refine wp_seq_k (fun K3 hK => ?_)
          have HK3 : Hid (∀ (a : Act) (w : World), _ → K3 a w) := hK
          clear hK
          go_wp2
          refine HK3.out _ _ (wp_cond_true (by kernel_rfl) ?_)
          clear HK3 K3 HK2 HK1 HK9 x1
          go_wp2
          go_ret
          exact bad.out
      · have hss : ¬ (s : Int) < (P.nS : Int) := by omega
        have dg : decide ((P.nS : Int) ≤ (s : Int)) = true := decide_eq_true (by omega)
        have dg2 : decide (P.nS ≤ s) = true := decide_eq_true (by omega)
        clear d1 d2 hO hs h0
        refine wp_seq_k (fun K2 hK => ?_)
        have HK2 : Hid (∀ (a : Act) (w : World), _ → K2 a w) := hK
        clear hK
        go_wp2
        refine HK2.out _ _ ?_
        clear HK2 K2
        refine wp_seq_k (fun K2 hK => ?_)
        have HK2 : Hid (∀ (a : Act) (w : World), _ → K2 a w) := hK
        clear hK
        refine wp_seq_k (fun K3 hK => ?_)
        have HK3 : Hid (∀ (a : Act) (w : World), _ → K3 a w) := hK
        clear hK
        go_wp2
        refine HK3.out _ _ (wp_cond_true (by kernel_rfl) ?_)
        clear HK3 K3 HK2 HK1 HK9 x1
        go_wp2
        go_ret
        exact bad.out
  · have hii : ¬ (i : Int) < (n : Int) := by omega
    have good : Hid (RetO w0 P c n z (.returned (.bool true)) w') := by
      have e1 : i = P.mn c := by have := HN.out; omega
      rw [e1] at hO
      obtain ⟨str, s1, s2⟩ := hO.ord
      exact ⟨true, rfl, fun _ => ⟨HN.out, str, fun j hj => s1 j (by rw [← HN.out]; exact hj), s2⟩, hT.grew HW.out⟩
    clear hT hO
    go_wp2
    refine HK2.out _ _ (wp_cond_false (by kernel_rfl) (wp_exit ?_))
    refine HK9.out _ _ ?_
    clear HK1 K1 HK2 K2 HK9 K9
    simp only [tl, Try.f20, Option.getD]
    go_wp2
    go_ret
    exact good.out

set_option maxRecDepth 40000 in
set_option maxHeartbeats 4000000 in
theorem orders_calls (w0 : World) (V : Fam) (P : PS) (c : Nat) (os : Option Addr) (n ks : Nat) (z : Nat → Int) (hR : Rep KV w0 V) (hV : VM V P) (c1 : c < P.nC) (c2 : P.mn c ≠ 0) (hm : ∀ j, j < P.mn c → P.mem c j = ((P.sl c j : Nat) : Int) ∧ P.sl c j < P.nS) (hS : P.nS ≤ 200000) (hC : P.nC ≤ 200000) (hM : P.mn c ≤ 1000000) (hs : ∀ j, j < n → ∃ b, os = some ⟨b, 0, none⟩ ∧ n ≤ ks ∧ w0.cell? ⟨b, j, none⟩ = some (.int .i64 (z j))) (hn : n ≤ 10000000) :
    Calls Try.prog 20 #[.agg #[V.val 0, V.val 1, V.val 2, V.val 3, V.val 4, V.val 5, V.val 6], .int .i64 (c : Int), .slice os n ks] w0 (RetO w0 P c n z) := by
  have hin : VIn (w0.alloc (.cells #[V.val 0, V.val 1, V.val 2, V.val 3, V.val 4, V.val 5, V.val 6] 35)) w0.heap.size P := vin_of (heap_alloc_new w0 _) (hR.alloc _) hV
  have hg : Grew Fam.nil w0 Fam.nil (w0.alloc (.cells #[V.val 0, V.val 1, V.val 2, V.val 3, V.val 4, V.val 5, V.val 6] 35)) := (Grew.refl Fam.nil w0).alloc _
  have hg0 : Grew Fam.nil (w0.alloc (.cells #[V.val 0, V.val 1, V.val 2, V.val 3, V.val 4, V.val 5, V.val 6] 35)) Fam.nil (w0.alloc (.cells #[V.val 0, V.val 1, V.val 2, V.val 3, V.val 4, V.val 5, V.val 6] 35)) := Grew.refl _ _
  obtain ⟨b5, k5, b5', l5, x1, x2, x3, x4, x5⟩ := hin.v5.some hg0 c1 c2
  obtain ⟨o3, k3, z3⟩ := hin.v3.len hg0
  obtain ⟨i3, hi3, hz30, hz31, hz32⟩ := info_parts Try.info3
  obtain ⟨mq, hmq, hfmq⟩ := make_fun (P := Try.prog) 26 3 i3 (.int .i64 0) 1 8 (.int .i64 0) Try.underlying26 hi3 hz30 hz31 hz32 rfl (by decide) zero1 P.nS (by omega) (by omega)
  have HO : Hid (n = P.mn c → OIn (w0.alloc (.cells #[V.val 0, V.val 1, V.val 2, V.val 3, V.val 4, V.val 5, V.val 6] 35)) P c (some ⟨b5', 0, none⟩) l5 os n ks z) := by
    intro e
    refine ⟨fun j hj => ?_, fun j hj => ?_, hS, hM, e⟩
    · obtain ⟨m1, m2⟩ := hm j hj
      have := x5 j hj
      rw [m1] at this
      exact ⟨b5', P.sl c j, rfl, x4, this, m2, rfl⟩
    · obtain ⟨b, e1, e2, e3⟩ := hs j hj
      exact ⟨b, e1, e2, hg.cell e3⟩
  have HG : Hid (Grew Fam.nil w0 Fam.nil (w0.alloc (.cells #[V.val 0, V.val 1, V.val 2, V.val 3, V.val 4, V.val 5, V.val 6] 35))) := hg
  have HTm : Hid (Tm (w0.alloc (.cells #[V.val 0, V.val 1, V.val 2, V.val 3, V.val 4, V.val 5, V.val 6] 35)) P (w0.alloc (.cells #[V.val 0, V.val 1, V.val 2, V.val 3, V.val 4, V.val 5, V.val 6] 35)).heap.size (fun _ => 0) (mq (w0.alloc (.cells #[V.val 0, V.val 1, V.val 2, V.val 3, V.val 4, V.val 5, V.val 6] 35)))) := ⟨_, (MM.nil _).fresh (r := 2) rfl (hfmq _), Roi.new _ 2 _ _ (fun _ => 0)⟩
  have hsz : (w0.alloc (.cells #[V.val 0, V.val 1, V.val 2, V.val 3, V.val 4, V.val 5, V.val 6] 35)).heap.size = w0.heap.size + 1 := by simp
  rw [hsz] at HTm
  clear hin hg hg0 x5 hm hs hR hV hi3 hz30 hz31 hz32 hfmq hsz
  refine calls_of_wp (c := (Try.f20.body.getD .skip)) Try.func20 rfl ?_
  have hfr : ({ tmps := #[.agg #[V.val 0, V.val 1, V.val 2, V.val 3, V.val 4, V.val 5, V.val 6], .int .i64 (c : Int), .slice os n ks] ++ Array.replicate (Try.f20.ntmps - (#[.agg #[V.val 0, V.val 1, V.val 2, V.val 3, V.val 4, V.val 5, V.val 6], .int .i64 (c : Int), .slice os n ks] : Array Value).size) undef, defers := [] } : Act) = { tmps := #[.agg #[V.val 0, V.val 1, V.val 2, V.val 3, V.val 4, V.val 5, V.val 6], .int .i64 (c : Int), .slice os n ks, undef, undef, undef, undef, undef, undef, undef, undef, undef, undef, undef, undef, undef, undef, undef, undef, undef, undef, undef, undef, undef, undef, undef, undef, undef, undef, undef, undef, undef, undef, undef, undef, undef, undef, undef, undef, undef, undef, undef, undef, undef, undef, undef, undef, undef, undef, undef, undef, undef, undef, undef, undef, undef, undef, undef, undef, undef, undef, undef, undef, undef, undef, undef, undef, undef, undef, undef, undef, undef, undef, undef, undef, undef], defers := [] } := by kernel_rfl
  rw [hfr]
  clear hfr
  have hci : (c : Int) < (P.nC : Int) := by omega
  show Code.wp Try.prog (Code.seq _ (Code.seq _ (Code.seq (Code.seq _ (Code.cond (.tmp 22) (Code.seq _ _) Code.skip)) (Code.seq _ (tl 4 (Try.f20.body.getD .skip)))))) _ _ w0
  refine wp_seq_k (fun K1 hK => ?_)
  have HK1 : Hid (∀ (a : Act) (w : World), _ → K1 a w) := hK
  clear hK
  go_wp2
  refine HK1.out _ _ ?_
  clear HK1 K1
  refine wp_seq_k (fun K1 hK => ?_)
  have HK1 : Hid (∀ (a : Act) (w : World), _ → K1 a w) := hK
  clear hK
  go_wp2
  refine HK1.out _ _ ?_
  clear HK1 K1
  by_cases hnm : n = P.mn c
  · have hoin := HO.out hnm
    have HOI : Hid (OIn (w0.alloc (.cells #[V.val 0, V.val 1, V.val 2, V.val 3, V.val 4, V.val 5, V.val 6] 35)) P c (some ⟨b5', 0, none⟩) l5 os n ks z) := hoin
    have hb : ((n : Int) == ((P.mn c : Nat) : Int)) = true := by rw [hnm]; simp
    have hb2 : ((n : Int) != ((P.mn c : Nat) : Int)) = false := by rw [hnm]; simp
    clear HO hoin hnm
    generalize hmm : P.mn c = mc at *
    refine wp_seq_k (fun K1 hK => ?_)
    have HK1 : Hid (∀ (a : Act) (w : World), _ → K1 a w) := hK
    clear hK
    refine wp_seq_k (fun K2 hK => ?_)
    have HK2 : Hid (∀ (a : Act) (w : World), _ → K2 a w) := hK
    clear hK
    go_wp2
    refine HK2.out _ _ (wp_cond_false (by kernel_rfl) (wp_skip ?_))
    refine HK1.out _ _ ?_
    clear HK1 K1 HK2 K2
    refine wp_seq_k (fun K1 hK => ?_)
    have HK1 : Hid (∀ (a : Act) (w : World), _ → K1 a w) := hK
    clear hK
    go_wp2
    refine HK1.out _ _ ?_
    clear HK1 K1
    have e4 : tl 4 (Try.f20.body.getD .skip) = Code.seq (sL (tl 4 (Try.f20.body.getD .skip))) (tl 5 (Try.f20.body.getD .skip)) := by kernel_rfl
    rw [e4]
    refine wp_seq ?_
    subst hmm
    refine om_1 _ P c _ l5 os n ks _ z HOI.out _ HTm.out _ ⟨by kernel_rfl, by kernel_rfl, by kernel_rfl, by kernel_rfl, by kernel_rfl⟩ _ ?_
    intro a w mk hf hT hO
    exact om_2 w0 _ P c _ l5 os n ks _ z HG.out HOI.out w mk hT hO a hf
  · have hb : ((n : Int) == ((P.mn c : Nat) : Int)) = false := by rw [beq_eq_false_iff_ne]; omega
    have hb2 : ((n : Int) != ((P.mn c : Nat) : Int)) = true := by
      have : (n : Int) ≠ ((P.mn c : Nat) : Int) := by omega
      simpa using this
    have bad : Hid (RetO w0 P c n z (.returned (.bool false)) (w0.alloc (.cells #[V.val 0, V.val 1, V.val 2, V.val 3, V.val 4, V.val 5, V.val 6] 35))) := ⟨false, rfl, fun h => absurd h (by simp), HG.out⟩
    clear HO HTm HG
    generalize P.mn c = mc at *
    refine wp_seq_k (fun K1 hK => ?_)
    have HK1 : Hid (∀ (a : Act) (w : World), _ → K1 a w) := hK
    clear hK
    refine wp_seq_k (fun K2 hK => ?_)
    have HK2 : Hid (∀ (a : Act) (w : World), _ → K2 a w) := hK
    clear hK
    go_wp2
    refine HK2.out _ _ (wp_cond_true (by kernel_rfl) ?_)
    clear HK1 HK2 K2
    go_wp2
    go_ret
    exact bad.out
end Go.Proofs.Qxb6602148a
