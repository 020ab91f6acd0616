/-
  The first law, whole.
-/
import Derived.Test.Qxb6602148aLb
attribute [local go_sem] Go.Proofs.Qxb6602148a.yTo Go.Proofs.Qxb6602148a.yUpon
namespace Go.Proofs.Qxb6602148a
open Go.RowKit
set_option linter.unusedVariables false
set_option linter.unusedSimpArgs false

set_option maxRecDepth 40000 in
set_option maxHeartbeats 4000000 in
theorem law1_calls (w : World) (a : Option Addr) (n k : Nat) (A : Nat → Option Addr) (d C : Nat → Nat) (z : Nat → Nat → Int) (h : RG w a n A d C z) (hk : a = none → n = 0 ∧ k = 0) :
    Calls Try.prog 3 #[.slice a n k] w fun e w' => e = .returned (.bool true) ∧ Below w.heap.size w w' := by
  have HRG : Hid (RG w a n A d C z) := h
  have HNK : Hid (a = none → n = 0 ∧ k = 0) := hk
  have H6 : Hid (Calls Try.prog 6 #[.slice a n k] w (RetB w)) := bytes6_calls w a n k A d C z h
  have H7 : Hid (Calls Try.prog 7 #[.slice a n k, .int .i64 0] w (RetF w n d)) := bytesFit_calls w a n k 0 A d C z h
  clear h hk
  refine calls_of_wp (c := (Try.f3.body.getD .skip)) Try.func3 rfl ?_
  have hfr : ({ tmps := #[.slice a n k] ++ Array.replicate (Try.f3.ntmps - (#[.slice a n k] : Array Value).size) undef, defers := [] } : Act) = { tmps := #[.slice a n k, undef, undef, undef, undef, undef, undef, undef, undef, undef, undef, undef, undef, undef, undef, undef, undef, undef, undef, undef, undef, undef, undef, undef], defers := [] } := by kernel_rfl
  rw [hfr]
  clear hfr
  show Code.wp Try.prog (Code.seq _ (Code.seq (Code.seq _ (Code.cond (.tmp 7) _ Code.skip)) (Code.seq (Code.seq _ (Code.cond (.tmp 10) _ Code.skip)) (Code.seq (Code.seq _ (Code.cond (.tmp 13) _ Code.skip)) (Code.seq _ (tl 5 (Try.f3.body.getD .skip))))))) _ _ w
  refine wp_seq_k (fun K1 hK => ?_)
  have HK1 : Hid (∀ (a : Act) (w : World), _ → K1 a w) := hK
  clear hK
  go_wp2
  refine HK1.out _ _ ?_
  clear HK1 K1
  refine wp_seq_k (fun K1 hK => ?_)
  have HK1 : Hid (∀ (a : Act) (w : World), _ → K1 a w) := hK
  clear hK
  refine wp_seq_k (fun K2 hK => ?_)
  have HK2 : Hid (∀ (a : Act) (w : World), _ → K2 a w) := hK
  clear hK
  go_wp2_with (go_at_call 6; refine H6.out.mono ?_; rintro e w2 ⟨⟨b, rfl⟩, hw2⟩; have HW2 : Hid (w2 = w) := hw2; clear hw2)
  obtain rfl := HW2.out
  clear HW2 H6
  cases b with
  | false =>
    refine HK2.out _ _ (wp_cond_true (by kernel_rfl) ?_)
    clear HK1 HK2 K2
    go_wp2
    go_ret
    exact ⟨rfl, Below.refl _ _⟩
  | true =>
  refine HK2.out _ _ (wp_cond_false (by kernel_rfl) (wp_skip ?_))
  refine HK1.out _ _ ?_
  clear HK1 K1 HK2 K2
  refine wp_seq_k (fun K1 hK => ?_)
  have HK1 : Hid (∀ (a : Act) (w : World), _ → K1 a w) := hK
  clear hK
  refine wp_seq_k (fun K2 hK => ?_)
  have HK2 : Hid (∀ (a : Act) (w : World), _ → K2 a w) := hK
  clear hK
  go_wp2_with (go_at_call 7; refine H7.out.mono ?_; rintro e w3 ⟨⟨b, rfl, hb⟩, hw3⟩; have HW3 : Hid (w3 = w2) := hw3; have HB : Hid (b = true → ∀ r, r < n → d r ≤ 131072) := hb; clear hw3 hb)
  obtain rfl := HW3.out
  clear HW3 H7
  cases b with
  | false =>
    refine HK2.out _ _ (wp_cond_true (by kernel_rfl) ?_)
    clear HK1 HK2 K2
    go_wp2
    go_ret
    exact ⟨rfl, Below.refl _ _⟩
  | true =>
  have HB2 : Hid (∀ r, r < n → d r ≤ 131072) := HB.out rfl
  clear HB
  have H8 : Hid (Calls Try.prog 8 #[.slice a n k] w3 (RetG w3 n d z)) := graphFits_calls w3 a n k A d C z HRG.out HB2.out
  refine HK2.out _ _ (wp_cond_false (by kernel_rfl) (wp_skip ?_))
  refine HK1.out _ _ ?_
  clear HK1 K1 HK2 K2
  refine wp_seq_k (fun K1 hK => ?_)
  have HK1 : Hid (∀ (a : Act) (w : World), _ → K1 a w) := hK
  clear hK
  refine wp_seq_k (fun K2 hK => ?_)
  have HK2 : Hid (∀ (a : Act) (w : World), _ → K2 a w) := hK
  clear hK
  go_wp2_with (go_at_call 8; refine H8.out.mono ?_; rintro e w4 ⟨⟨b, rfl, hb⟩, hw4⟩; have HW4 : Hid (w4 = w3) := hw4; have HG : Hid (b = true → (rgG n d z).Ok ∧ ∀ r c, r < n → c < d r → 0 ≤ z r c) := hb; clear hw4 hb)
  obtain rfl := HW4.out
  clear HW4 H8
  cases b with
  | false =>
    refine HK2.out _ _ (wp_cond_true (by kernel_rfl) ?_)
    clear HK1 HK2 K2
    go_wp2
    go_ret
    exact ⟨rfl, Below.refl _ _⟩
  | true =>
  have HG2 : Hid ((rgG n d z).Ok ∧ ∀ r c, r < n → c < d r → 0 ≤ z r c) := HG.out rfl
  clear HG
  have H9 : Hid (Calls Try.prog 9 #[.slice a n k] w4 (CGOut w4 n d z)) := cloneGraph_calls w4 a n k A d C z HRG.out HNK.out HG2.out.1.n HB2.out HG2.out.2
  refine HK2.out _ _ (wp_cond_false (by kernel_rfl) (wp_skip ?_))
  refine HK1.out _ _ ?_
  clear HK1 K1 HK2 K2
  refine wp_seq_k (fun K1 hK => ?_)
  have HK1 : Hid (∀ (a : Act) (w : World), _ → K1 a w) := hK
  clear hK
  go_wp2_with (go_at_call 9; refine H9.out.mono ?_; rintro e w5 ⟨Nf, a', k', rfl, hGM, hGr⟩; have HGM : Hid (GM w5 Nf (rgG n d z) a' k') := hGM; have HGR : Hid (Grew Fam.nil w4 Nf w5) := hGr; clear hGM hGr)
  refine HK1.out _ _ ?_
  clear HK1 K1 H9
  exact law1_b w4 w5 Nf (rgG n d z) a' k' HGM.out HG2.out.1 HGR.out.to_nil _ (by kernel_rfl) (by kernel_rfl) (by kernel_rfl)
end Go.Proofs.Qxb6602148a
