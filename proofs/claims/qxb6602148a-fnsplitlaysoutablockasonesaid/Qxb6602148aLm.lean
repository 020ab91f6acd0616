/-
  'zzWasInUse', 'zzSameElems', 'zzOrdersMembers'.
-/
import Derived.Test.Qxb6602148aLd
import Derived.Test.Qxb6602148aBs
attribute [local go_sem] Go.Proofs.Qxb6602148a.yTo Go.Proofs.Qxb6602148a.yUpon
namespace Go.Proofs.Qxb6602148a
open Go.RowKit
set_option linter.unusedVariables false
set_option linter.unusedSimpArgs false

/-- Slot s was in use. -/
def WU (P : PS) (s : Int) : Prop := 0 ≤ s ∧ s.toNat < P.nS ∧ 0 ≤ P.comp s.toNat
def RetWU (w : World) (P : PS) (s : Int) (e : Ending) (w' : World) : Prop := ∃ b : Bool, e = .returned (.bool b) ∧ (b = true ↔ WU P s) ∧ Grew Fam.nil w Fam.nil w'
set_option maxHeartbeats 2000000 in
theorem wasInUse_calls (w : World) (V : Fam) (P : PS) (n : Nat) (hR : Rep KV w V) (hV : VM V P) (hS : P.nS ≤ 200000) (hn : n ≤ 1000000) :
    Calls Try.prog 22 #[.agg #[V.val 0, V.val 1, V.val 2, V.val 3, V.val 4, V.val 5, V.val 6], .int .i64 (n : Int)] w (RetWU w P (n : Int)) := by
  have hin : VIn (w.alloc (.cells #[V.val 0, V.val 1, V.val 2, V.val 3, V.val 4, V.val 5, V.val 6] 35)) w.heap.size P := vin_of (heap_alloc_new w _) (hR.alloc _) hV
  have hg : Grew Fam.nil (w.alloc (.cells #[V.val 0, V.val 1, V.val 2, V.val 3, V.val 4, V.val 5, V.val 6] 35)) Fam.nil (w.alloc (.cells #[V.val 0, V.val 1, V.val 2, V.val 3, V.val 4, V.val 5, V.val 6] 35)) := Grew.refl _ _
  have HG : Hid (Grew Fam.nil w Fam.nil (w.alloc (.cells #[V.val 0, V.val 1, V.val 2, V.val 3, V.val 4, V.val 5, V.val 6] 35))) := (Grew.refl Fam.nil w).alloc _
  obtain ⟨o5, k5, x5⟩ := hin.v3.len hg
  by_cases h2 : n < P.nS
  · have h3 : (n : Int) < (P.nS : Int) := by omega
    obtain ⟨b3, k3, z1, z2, z3⟩ := hin.v3.at hg h2
    by_cases h0 : 0 ≤ P.comp n
    · have fin : Hid (WU P (n : Int)) := ⟨by omega, by rw [Int.toNat_natCast]; exact h2, by rw [Int.toNat_natCast]; exact h0⟩
      have dg : decide (0 ≤ P.comp n) = true := decide_eq_true h0
      clear hin hg x5
      generalize P.comp n = cn at *
      go_enter Try.func22, Try.ntmps22
      go_wp2
      go_ret
      exact ⟨true, rfl, ⟨fun _ => fin.out, fun _ => rfl⟩, HG.out⟩
    · have fin : Hid (¬ WU P (n : Int)) := fun h => by have := h.2.2; rw [Int.toNat_natCast] at this; exact h0 this
      have dg : decide (0 ≤ P.comp n) = false := decide_eq_false h0
      clear hin hg x5
      generalize P.comp n = cn at *
      go_enter Try.func22, Try.ntmps22
      go_wp2
      go_ret
      exact ⟨false, rfl, ⟨fun h => absurd h (by simp), fun h => absurd h fin.out⟩, HG.out⟩
  · have h3 : ¬ (n : Int) < (P.nS : Int) := by omega
    have fin : Hid (¬ WU P (n : Int)) := fun h => by have := h.2.1; rw [Int.toNat_natCast] at this; omega
    have dg : decide ((n : Int) < (P.nS : Int)) = false := decide_eq_false h3
    have dg2 : decide (n < P.nS) = false := decide_eq_false h2
    clear hin hg
    go_enter Try.func22, Try.ntmps22
    go_wp2
    go_ret
    exact ⟨false, rfl, ⟨fun h => absurd h (by simp), fun h => absurd h fin.out⟩, HG.out⟩

def LseI (n : Nat) (u0 u1 : Value) (w0 : World) (a : Act) (w : World) : Prop := a.tmps.size = 26 ∧ a.defers = [] ∧ a.tmps.getD 0 undef = u0 ∧ a.tmps.getD 1 undef = u1 ∧ ∃ i : Nat, a.tmps.getD 5 undef = .int .i64 (i : Int) ∧ i ≤ n ∧ ∃ k, w = w0.drewN k
set_option maxRecDepth 40000 in
theorem arr_26 (arr : Array Value) (h : arr.size = 26) : ∃ y : Nat → Value, arr = #[y 0, y 1, y 2, y 3, y 4, y 5, y 6, y 7, y 8, y 9, y 10, y 11, y 12, y 13, y 14, y 15, y 16, y 17, y 18, y 19, y 20, y 21, y 22, y 23, y 24, y 25] ∧ ∀ i, y i = arr.getD i undef := by
  refine ⟨fun i => arr.getD i undef, ?_, fun _ => rfl⟩
  exact (arr_map arr 26 h undef).trans (by kernel_rfl)
set_option maxRecDepth 40000 in
theorem le1 {a : Act} {u0 u1 : Value} (hs : a.tmps.size = 26) (hd : a.defers = []) (h0 : a.tmps.getD 0 undef = u0) (h1 : a.tmps.getD 1 undef = u1) : ∃ y : Nat → Value, a = { tmps := #[u0, u1, y 2, y 3, y 4, y 5, y 6, y 7, y 8, y 9, y 10, y 11, y 12, y 13, y 14, y 15, y 16, y 17, y 18, y 19, y 20, y 21, y 22, y 23, y 24, y 25], defers := [] } := by
  obtain ⟨tmps, defers⟩ := a
  have yd : defers = [] := hd
  subst yd
  obtain ⟨y, hy, hi⟩ := arr_26 tmps hs
  have e0 := (hi 0).trans h0
  have e1 := (hi 1).trans h1
  rw [e0, e1] at hy
  exact ⟨y, congrArg (fun t => (⟨t, []⟩ : Act)) hy⟩
set_option maxRecDepth 40000 in
theorem le5 {a : Act} {u0 u1 u5 : Value} (hs : a.tmps.size = 26) (hd : a.defers = []) (h0 : a.tmps.getD 0 undef = u0) (h1 : a.tmps.getD 1 undef = u1) (h5 : a.tmps.getD 5 undef = u5) : ∃ y : Nat → Value, a = { tmps := #[u0, u1, y 2, y 3, y 4, u5, y 6, y 7, y 8, y 9, y 10, y 11, y 12, y 13, y 14, y 15, y 16, y 17, y 18, y 19, y 20, y 21, y 22, y 23, y 24, y 25], defers := [] } := by
  obtain ⟨tmps, defers⟩ := a
  have yd : defers = [] := hd
  subst yd
  obtain ⟨y, hy, hi⟩ := arr_26 tmps hs
  have e0 := (hi 0).trans h0
  have e1 := (hi 1).trans h1
  have e5 := (hi 5).trans h5
  rw [e0, e1, e5] at hy
  exact ⟨y, congrArg (fun t => (⟨t, []⟩ : Act)) hy⟩
set_option maxRecDepth 40000 in
set_option maxHeartbeats 2000000 in
/-- Two lists with the same entries. -/
theorem sameElems_calls (w : World) (o1 o2 : Option Addr) (n k1 k2 : Nat) (f : Nat → Int) (hn : n ≤ 1000000) (h1 : ∀ j, j < n → ∃ b, o1 = some ⟨b, 0, none⟩ ∧ n ≤ k1 ∧ w.cell? ⟨b, j, none⟩ = some (.int .i64 (f j))) (h2 : ∀ j, j < n → ∃ b, o2 = some ⟨b, 0, none⟩ ∧ n ≤ k2 ∧ w.cell? ⟨b, j, none⟩ = some (.int .i64 (f j))) :
    Calls Try.prog 23 #[.slice o1 n k1, .slice o2 n k2] w fun e w' => e = .returned (.bool true) ∧ ∃ k, w' = w.drewN k := by
  have H1 : Hid (∀ j, j < n → ∃ b, o1 = some ⟨b, 0, none⟩ ∧ n ≤ k1 ∧ w.cell? ⟨b, j, none⟩ = some (.int .i64 (f j))) := h1
  have H2 : Hid (∀ j, j < n → ∃ b, o2 = some ⟨b, 0, none⟩ ∧ n ≤ k2 ∧ w.cell? ⟨b, j, none⟩ = some (.int .i64 (f j))) := h2
  clear h1 h2
  refine calls_of_wp (c := (Try.f23.body.getD .skip)) Try.func23 rfl ?_
  have hfr : ({ tmps := #[.slice o1 n k1, .slice o2 n k2] ++ Array.replicate (Try.f23.ntmps - (#[.slice o1 n k1, .slice o2 n k2] : Array Value).size) undef, defers := [] } : Act) = { tmps := #[.slice o1 n k1, .slice o2 n k2, undef, undef, undef, undef, undef, undef, undef, undef, undef, undef, undef, undef, undef, undef, undef, undef, undef, undef, undef, undef, undef, undef, undef, undef], defers := [] } := by kernel_rfl
  rw [hfr]
  clear hfr
  have AFTER : Hid (∀ (a : Act) (w' : World), a.tmps.size = 26 → a.defers = [] → a.tmps.getD 0 undef = .slice o1 n k1 → a.tmps.getD 1 undef = .slice o2 n k2 → w' = w → Code.wp Try.prog (tl 2 (Try.f23.body.getD .skip)) (bodyPost Try.prog Try.f23 fun e w' => e = .returned (.bool true) ∧ ∃ k, w' = w.drewN k) a w') := by
    rintro a w' hs hd h0 h1 rfl
    obtain ⟨y, rfl⟩ := le1 hs hd h0 h1
    clear hs hd h0 h1
    show Code.wp Try.prog (Code.seq (Code.seq _ (Code.block 0 (Code.loop (Code.seq (Code.seq _ (Code.cond (.tmp 14) Code.skip (Code.exit 0))) (Code.seq (Code.block 1 (Code.seq _ (Code.cond (.tmp 25) _ Code.skip))) _))))) (tl 3 (Try.f23.body.getD .skip))) _ _ w'
    refine wp_seq_k (fun K9 hK => ?_)
    have HK : Hid (∀ (a : Act) (w : World), _ → K9 a w) := hK
    clear hK
    refine wp_seq_k (fun K8 hK => ?_)
    have HK8 : Hid (∀ (a : Act) (w : World), _ → K8 a w) := hK
    clear hK
    go_wp2
    refine HK8.out _ _ ?_
    clear HK8 K8
    refine wp_block ?_
    refine wp_loop (LseI n (.slice o1 n k1) (.slice o2 n k2) w') (fun a _ => mus 5 n a) ⟨by kernel_rfl, by kernel_rfl, by kernel_rfl, by kernel_rfl, 0, by kernel_rfl, Nat.zero_le _, 0, rfl⟩ ?_
    rintro a w2 ⟨hs, hd, h0, h1, i, h5, i1, k, rfl⟩
    have e5 : mus 5 n a = n - i := congrArg (fun v => n - (intOf v).toNat) h5
    obtain ⟨y2, rfl⟩ := le5 hs hd h0 h1 h5
    rw [e5]
    clear e5 hs hd h0 h1 h5
    refine wp_seq_k (fun K1 hK => ?_)
    have HK1 : Hid (∀ (a : Act) (w : World), _ → K1 a w) := hK
    clear hK
    refine wp_seq_k (fun K2 hK => ?_)
    have HK2 : Hid (∀ (a : Act) (w : World), _ → K2 a w) := hK
    clear hK
    by_cases hi : i < n
    · have hii : (i : Int) < (n : Int) := by omega
      obtain ⟨b1, rfl, c1, c2⟩ := H1.out i hi
      obtain ⟨b2, rfl, c3, c4⟩ := H2.out i hi
      have c2' : (w'.drewN k).cell? ⟨b1, i, none⟩ = some (.int .i64 (f i)) := c2
      have c4' : (w'.drewN k).cell? ⟨b2, i, none⟩ = some (.int .i64 (f i)) := c4
      have HD : Hid (∀ j, ∃ q, (w'.drewN k).drewN j = w'.drewN q) := fun j => drewN_drewN w' k j
      clear c2 c4
      generalize f i = fi at *
      generalize w'.drewN k = wk at *
      go_wp2
      refine HK2.out _ _ (wp_cond_true (by kernel_rfl) (wp_skip ?_))
      refine HK1.out _ _ ?_
      clear HK1 K1 HK2 K2
      refine wp_seq_k (fun K1 hK => ?_)
      have HK1 : Hid (∀ (a : Act) (w : World), _ → K1 a w) := hK
      clear hK
      refine wp_block ?_
      refine wp_seq_k (fun K2 hK => ?_)
      have HK2 : Hid (∀ (a : Act) (w : World), _ → K2 a w) := hK
      clear hK
      go_quiet (fail)
      refine HK2.out _ _ (wp_cond_false (by kernel_rfl) (wp_skip ?_))
      refine HK1.out _ _ ?_
      clear HK1 K1 HK2 K2 c2' c4'
      obtain ⟨q, hq⟩ := HD.out nq
      have HQ : Hid (wk.drewN nq = w'.drewN q) := hq
      clear hq HD
      generalize wk.drewN nq = wl at *
      go_wp2
      exact ⟨⟨by kernel_rfl, by kernel_rfl, by kernel_rfl, by kernel_rfl, i + 1, by kernel_rfl, by omega, q, HQ.out⟩, Nat.lt_of_le_of_lt (Nat.le_of_eq (by kernel_rfl : _ = n - (i + 1))) (by omega)⟩
    · have hii : ¬ (i : Int) < (n : Int) := by omega
      obtain rfl : i = n := by omega
      go_wp2
      refine HK2.out _ _ (wp_cond_false (by kernel_rfl) (wp_exit ?_))
      refine HK.out _ _ ?_
      simp only [tl, Try.f23, Option.getD]
      go_wp2
      go_ret
      exact ⟨rfl, k, rfl⟩
  show Code.wp Try.prog (Code.seq _ (Code.seq (Code.seq _ (Code.cond (.tmp 10) _ Code.skip)) (tl 2 (Try.f23.body.getD .skip)))) _ _ w
  refine wp_seq_k (fun K1 hK => ?_)
  have HK : Hid (∀ (a : Act) (w : World), _ → K1 a w) := hK
  clear hK
  go_wp2
  refine HK.out _ _ ?_
  clear HK K1
  refine wp_seq_k (fun K1 hK => ?_)
  have HK : Hid (∀ (a : Act) (w : World), _ → K1 a w) := hK
  clear hK
  go_wp2
  refine HK.out _ _ ?_
  exact AFTER.out _ _ (by kernel_rfl) (by kernel_rfl) (by kernel_rfl) (by kernel_rfl) rfl

/-- The marks say which slots have come up. -/
structure OM (P : PS) (c : Nat) (z : Nat → Int) (i : Nat) (mk : Nat → Int) : Prop where
  a : ∀ s, mk s = 1 → ∃ j, j < P.mn c ∧ P.sl c j = s
  b : ∀ i', i' < i → ∃ s : Nat, z i' = (s : Int) ∧ mk s = 2 ∧ ∃ j, j < P.mn c ∧ P.sl c j = s
  c : ∀ i' i'', i' < i → i'' < i → z i' = z i'' → i' = i''
theorem OM.next {P : PS} {c : Nat} {z : Nat → Int} {i : Nat} {mk : Nat → Int} (h : OM P c z i mk) {s : Nat} (hz : z i = (s : Int)) (hs : mk s = 1) : OM P c z (i + 1) (upd mk s 2) := by
  have hm := h.a s hs
  refine ⟨fun s' h1 => ?_, fun i' hi => ?_, fun i' i'' hi hi' e => ?_⟩
  · by_cases e : s' = s
    · subst e; rw [upd_same] at h1; omega
    · rw [upd_other _ _ e] at h1; exact h.a s' h1
  · by_cases e : i' = i
    · subst e; exact ⟨s, hz, upd_same _ _ _, hm⟩
    · obtain ⟨s', a1, a2, a3⟩ := h.b i' (by omega)
      refine ⟨s', a1, ?_, a3⟩
      by_cases e2 : s' = s
      · subst e2; rw [upd_same]
      · rw [upd_other _ _ e2]; exact a2
  · have key : ∀ i', i' < i → z i' = z i → False := by
      intro i' hi e
      obtain ⟨s', a1, a2, _⟩ := h.b i' hi
      have : s' = s := by rw [a1, hz] at e; omega
      subst this
      rw [hs] at a2; omega
    by_cases e1 : i' = i <;> by_cases e2 : i'' = i
    · omega
    · subst e1; exact (key i'' (by omega) e.symm).elim
    · subst e2; exact (key i' (by omega) e).elim
    · exact h.c i' i'' (by omega) (by omega) e
theorem OM.ord {P : PS} {c : Nat} {z : Nat → Int} {mk : Nat → Int} (h : OM P c z (P.mn c) mk) : ∃ str : Nat → Nat, (∀ i, i < P.mn c → z i = ((str i : Nat) : Int)) ∧ Ord P c str := by
  refine ⟨fun i => (z i).toNat, fun i hi => ?_, ⟨fun i j hi hj e => ?_, fun i hi => ?_⟩⟩
  · obtain ⟨s, a1, _⟩ := h.b i hi
    show z i = (((z i).toNat : Nat) : Int)
    rw [a1, Int.toNat_natCast]
  · obtain ⟨s, a1, _⟩ := h.b i hi
    obtain ⟨s', a1', _⟩ := h.b j hj
    have e : (z i).toNat = (z j).toNat := e
    rw [a1, a1', Int.toNat_natCast, Int.toNat_natCast] at e
    exact h.c i j hi hj (by rw [a1, a1', e])
  · obtain ⟨s, a1, _, j, j1, j2⟩ := h.b i hi
    exact ⟨j, j1, by show P.sl c j = (z i).toNat; rw [a1, Int.toNat_natCast]; exact j2⟩

/-- What is read. -/
structure OIn (wb : World) (P : PS) (c : Nat) (om : Option Addr) (km : Nat) (os : Option Addr) (n ks : Nat) (z : Nat → Int) : Prop where
  m : ∀ j, j < P.mn c → ∃ b s : Nat, om = some ⟨b, 0, none⟩ ∧ P.mn c ≤ km ∧ wb.cell? ⟨b, j, none⟩ = some (.int .i64 (s : Int)) ∧ s < P.nS ∧ P.sl c j = s
  s : ∀ j, j < n → ∃ b, os = some ⟨b, 0, none⟩ ∧ n ≤ ks ∧ wb.cell? ⟨b, j, none⟩ = some (.int .i64 (z j))
  sm : P.nS ≤ 200000 ∧ P.mn c ≤ 1000000 ∧ n = P.mn c
def Tm (wb : World) (P : PS) (g8 : Nat) (mk : Nat → Int) (w : World) : Prop := ∃ D, MM wb D w ∧ Roi D 2 g8 P.nS mk
structure F20 (om : Option Addr) (mc km : Nat) (os : Option Addr) (n ks g8 nS : Nat) (a : Act) : Prop where
  sz : a.tmps.size = 76
  df : a.defers = []
  s2 : a.tmps.getD 2 undef = .slice os n ks
  s7 : a.tmps.getD 7 undef = .slice om mc km
  s8 : a.tmps.getD 8 undef = .slice (some ⟨g8, 0, none⟩) nS nS
def Lo1 (wb : World) (P : PS) (c : Nat) (om : Option Addr) (km : Nat) (os : Option Addr) (n ks g8 : Nat) (a : Act) (w : World) : Prop :=
  F20 om (P.mn c) km os n ks g8 P.nS a ∧ ∃ (i : Nat) (mk : Nat → Int), a.tmps.getD 9 undef = .int .i64 (i : Int) ∧ i ≤ P.mn c ∧ Tm wb P g8 mk w ∧ ∀ s, mk s = 0 ∨ (mk s = 1 ∧ ∃ j, j < P.mn c ∧ P.sl c j = s)
def Lo2 (wb : World) (P : PS) (c : Nat) (om : Option Addr) (km : Nat) (os : Option Addr) (n ks g8 : Nat) (z : Nat → Int) (a : Act) (w : World) : Prop :=
  F20 om (P.mn c) km os n ks g8 P.nS a ∧ ∃ (i : Nat) (mk : Nat → Int), a.tmps.getD 11 undef = .int .i64 (i : Int) ∧ i ≤ n ∧ Tm wb P g8 mk w ∧ OM P c z i mk
set_option maxRecDepth 40000 in
theorem arr_76 (arr : Array Value) (h : arr.size = 76) : ∃ y : Nat → Value, arr = #[y 0, y 1, y 2, y 3, y 4, y 5, y 6, y 7, y 8, y 9, y 10, y 11, y 12, y 13, y 14, y 15, y 16, y 17, y 18, y 19, y 20, y 21, y 22, y 23, y 24, y 25, y 26, y 27, y 28, y 29, y 30, y 31, y 32, y 33, y 34, y 35, y 36, y 37, y 38, y 39, y 40, y 41, y 42, y 43, y 44, y 45, y 46, y 47, y 48, y 49, y 50, y 51, y 52, y 53, y 54, y 55, y 56, y 57, y 58, y 59, y 60, y 61, y 62, y 63, y 64, y 65, y 66, y 67, y 68, y 69, y 70, y 71, y 72, y 73, y 74, y 75] ∧ ∀ i, y i = arr.getD i undef := by
  refine ⟨fun i => arr.getD i undef, ?_, fun _ => rfl⟩
  exact (arr_map arr 76 h undef).trans (by kernel_rfl)
set_option maxRecDepth 40000 in
theorem lo {a : Act} {u2 u7 u8 : Value} (hs : a.tmps.size = 76) (hd : a.defers = []) (h2 : a.tmps.getD 2 undef = u2) (h7 : a.tmps.getD 7 undef = u7) (h8 : a.tmps.getD 8 undef = u8) : ∃ y : Nat → Value, a = { tmps := #[y 0, y 1, u2, y 3, y 4, y 5, y 6, u7, u8, y 9, y 10, y 11, y 12, y 13, y 14, y 15, y 16, y 17, y 18, y 19, y 20, y 21, y 22, y 23, y 24, y 25, y 26, y 27, y 28, y 29, y 30, y 31, y 32, y 33, y 34, y 35, y 36, y 37, y 38, y 39, y 40, y 41, y 42, y 43, y 44, y 45, y 46, y 47, y 48, y 49, y 50, y 51, y 52, y 53, y 54, y 55, y 56, y 57, y 58, y 59, y 60, y 61, y 62, y 63, y 64, y 65, y 66, y 67, y 68, y 69, y 70, y 71, y 72, y 73, y 74, y 75], defers := [] } := by
  obtain ⟨tmps, defers⟩ := a
  have yd : defers = [] := hd
  subst yd
  obtain ⟨y, hy, hi⟩ := arr_76 tmps hs
  have e2 := (hi 2).trans h2
  have e7 := (hi 7).trans h7
  have e8 := (hi 8).trans h8
  rw [e2, e7, e8] at hy
  exact ⟨y, congrArg (fun t => (⟨t, []⟩ : Act)) hy⟩
set_option maxRecDepth 40000 in
theorem lo9 {a : Act} {u2 u7 u8 u9 : Value} (hs : a.tmps.size = 76) (hd : a.defers = []) (h2 : a.tmps.getD 2 undef = u2) (h7 : a.tmps.getD 7 undef = u7) (h8 : a.tmps.getD 8 undef = u8) (h9 : a.tmps.getD 9 undef = u9) : ∃ y : Nat → Value, a = { tmps := #[y 0, y 1, u2, y 3, y 4, y 5, y 6, u7, u8, u9, y 10, y 11, y 12, y 13, y 14, y 15, y 16, y 17, y 18, y 19, y 20, y 21, y 22, y 23, y 24, y 25, y 26, y 27, y 28, y 29, y 30, y 31, y 32, y 33, y 34, y 35, y 36, y 37, y 38, y 39, y 40, y 41, y 42, y 43, y 44, y 45, y 46, y 47, y 48, y 49, y 50, y 51, y 52, y 53, y 54, y 55, y 56, y 57, y 58, y 59, y 60, y 61, y 62, y 63, y 64, y 65, y 66, y 67, y 68, y 69, y 70, y 71, y 72, y 73, y 74, y 75], defers := [] } := by
  obtain ⟨tmps, defers⟩ := a
  have yd : defers = [] := hd
  subst yd
  obtain ⟨y, hy, hi⟩ := arr_76 tmps hs
  have e2 := (hi 2).trans h2
  have e7 := (hi 7).trans h7
  have e8 := (hi 8).trans h8
  have e9 := (hi 9).trans h9
  rw [e2, e7, e8, e9] at hy
  exact ⟨y, congrArg (fun t => (⟨t, []⟩ : Act)) hy⟩
set_option maxRecDepth 40000 in
theorem lo11 {a : Act} {u2 u7 u8 u11 : Value} (hs : a.tmps.size = 76) (hd : a.defers = []) (h2 : a.tmps.getD 2 undef = u2) (h7 : a.tmps.getD 7 undef = u7) (h8 : a.tmps.getD 8 undef = u8) (h11 : a.tmps.getD 11 undef = u11) : ∃ y : Nat → Value, a = { tmps := #[y 0, y 1, u2, y 3, y 4, y 5, y 6, u7, u8, y 9, y 10, u11, y 12, y 13, y 14, y 15, y 16, y 17, y 18, y 19, y 20, y 21, y 22, y 23, y 24, y 25, y 26, y 27, y 28, y 29, y 30, y 31, y 32, y 33, y 34, y 35, y 36, y 37, y 38, y 39, y 40, y 41, y 42, y 43, y 44, y 45, y 46, y 47, y 48, y 49, y 50, y 51, y 52, y 53, y 54, y 55, y 56, y 57, y 58, y 59, y 60, y 61, y 62, y 63, y 64, y 65, y 66, y 67, y 68, y 69, y 70, y 71, y 72, y 73, y 74, y 75], defers := [] } := by
  obtain ⟨tmps, defers⟩ := a
  have yd : defers = [] := hd
  subst yd
  obtain ⟨y, hy, hi⟩ := arr_76 tmps hs
  have e2 := (hi 2).trans h2
  have e7 := (hi 7).trans h7
  have e8 := (hi 8).trans h8
  have e11 := (hi 11).trans h11
  rw [e2, e7, e8, e11] at hy
  exact ⟨y, congrArg (fun t => (⟨t, []⟩ : Act)) hy⟩

set_option maxRecDepth 40000 in
set_option maxHeartbeats 4000000 in
/-- The members are marked. -/
theorem om_1 (wb : World) (P : PS) (c : Nat) (om : Option Addr) (km : Nat) (os : Option Addr) (n ks g8 : Nat) (z : Nat → Int) (hin : OIn wb P c om km os n ks z) (wr : World) (hT : Tm wb P g8 (fun _ => 0) wr) (a : Act) (hf : F20 om (P.mn c) km os n ks g8 P.nS a) (Q : Exit → Act → World → Prop)
    (hC : ∀ (a : Act) (w : World) (mk : Nat → Int), F20 om (P.mn c) km os n ks g8 P.nS a → Tm wb P g8 mk w → OM P c z 0 mk → Q .normal a w) :
    Code.wp Try.prog (sL (tl 4 (Try.f20.body.getD .skip))) Q a wr := by
  obtain ⟨y, rfl⟩ := lo hf.sz hf.df hf.s2 hf.s7 hf.s8
  obtain ⟨hS, hM, hn⟩ := hin.sm
  have HIN : Hid (OIn wb P c om km os n ks z) := hin
  have HT : Hid (Tm wb P g8 (fun _ => 0) wr) := hT
  have HC : Hid (∀ (a : Act) (w : World) (mk : Nat → Int), F20 om (P.mn c) km os n ks g8 P.nS a → Tm wb P g8 mk w → OM P c z 0 mk → Q .normal a w) := hC
  clear hf hC hin hT hn
  show Code.wp Try.prog (Code.seq _ (Code.block 0 (Code.loop (Code.seq (Code.seq _ (Code.cond (.tmp 30) Code.skip (Code.exit 0))) (Code.seq (Code.block 1 (Code.seq _ (Code.seq (Code.seq _ (Code.cond (.tmp 44) _ Code.skip)) _))) _))))) Q _ wr
  refine wp_seq_k (fun K1 hK => ?_)
  have HK1 : Hid (∀ (a : Act) (w : World), _ → K1 a w) := hK
  clear hK
  go_wp2
  refine HK1.out _ _ ?_
  clear HK1 K1
  refine wp_block ?_
  refine wp_loop (Lo1 wb P c om km os n ks g8) (fun a _ => mus 9 (P.mn c) a) ⟨⟨by kernel_rfl, by kernel_rfl, by kernel_rfl, by kernel_rfl, by kernel_rfl⟩, 0, _, by kernel_rfl, Nat.zero_le _, HT.out, fun s => .inl rfl⟩ ?_
  clear HT y
  rintro a w' ⟨hf, i, mk, h9, i1, hT, hmk⟩
  have e9 : mus 9 (P.mn c) a = P.mn c - i := congrArg (fun v => P.mn c - (intOf v).toNat) h9
  obtain ⟨y2, rfl⟩ := lo9 hf.sz hf.df hf.s2 hf.s7 hf.s8 h9
  rw [e9]
  clear e9 hf h9
  refine wp_seq_k (fun K1 hK => ?_)
  have HK1 : Hid (∀ (a : Act) (w : World), _ → K1 a w) := hK
  clear hK
  refine wp_seq_k (fun K2 hK => ?_)
  have HK2 : Hid (∀ (a : Act) (w : World), _ → K2 a w) := hK
  clear hK
  by_cases hi : i < P.mn c
  · have hii : (i : Int) < ((P.mn c : Nat) : Int) := by omega
    obtain ⟨b, s, rfl, m1, m2, m3, m4⟩ := HIN.out.m i hi
    obtain ⟨D, d1, d2⟩ := hT
    have x1 := d1.grew.cell m2
    have z1 := d2.cell d1 rfl m3
    have z2 := d2.frozen d1 s
    have fin : Hid (∃ mk, Tm wb P g8 mk (w'.setCell ⟨g8, s, none⟩ (.int .i64 1)) ∧ ∀ s, mk s = 0 ∨ (mk s = 1 ∧ ∃ j, j < P.mn c ∧ P.sl c j = s)) := by
      refine ⟨_, ⟨_, d1.set d2.1 s _, d2.set s 1⟩, fun s' => ?_⟩
      by_cases e : s' = s
      · subst e; rw [upd_same]; exact .inr ⟨rfl, i, hi, m4⟩
      · rw [upd_other _ _ e]; exact hmk s'
    have hss : (s : Int) < (P.nS : Int) := by omega
    clear d1 d2 hmk m2 m4
    generalize mk s = m0 at *
    go_wp2
    refine HK2.out _ _ (wp_cond_true (by kernel_rfl) (wp_skip ?_))
    refine HK1.out _ _ ?_
    clear HK1 K1 HK2 K2
    refine wp_seq_k (fun K1 hK => ?_)
    have HK1 : Hid (∀ (a : Act) (w : World), _ → K1 a w) := hK
    clear hK
    refine wp_block ?_
    refine wp_seq_k (fun K2 hK => ?_)
    have HK2 : Hid (∀ (a : Act) (w : World), _ → K2 a w) := hK
    clear hK
    go_wp2
    refine HK2.out _ _ ?_
    clear HK2 K2
    refine wp_seq_k (fun K2 hK => ?_)
    have HK2 : Hid (∀ (a : Act) (w : World), _ → K2 a w) := hK
    clear hK
    go_wp2
    refine HK2.out _ _ ?_
    clear HK2 K2
    go_wp2
    refine HK1.out _ _ ?_
    clear HK1 K1 z1 z2 x1
    generalize w'.setCell ⟨g8, s, none⟩ (.int .i64 1) = wv at *
    go_wp2
    obtain ⟨mk', f1, f2⟩ := fin.out
    exact ⟨⟨⟨by kernel_rfl, by kernel_rfl, by kernel_rfl, by kernel_rfl, by kernel_rfl⟩, i + 1, mk', by kernel_rfl, by omega, f1, f2⟩, Nat.lt_of_le_of_lt (Nat.le_of_eq (by kernel_rfl : _ = P.mn c - (i + 1))) (by omega)⟩
  · have hii : ¬ (i : Int) < ((P.mn c : Nat) : Int) := by omega
    have HT : Hid (Tm wb P g8 mk w') := hT
    have HOM : Hid (OM P c z 0 mk) := ⟨fun s hs => by
      rcases hmk s with h | ⟨_, h⟩
      · omega
      · exact h, fun i' h => absurd h (Nat.not_lt_zero _), fun i' i'' h => absurd h (Nat.not_lt_zero _)⟩
    clear hT hmk
    go_wp2
    refine HK2.out _ _ (wp_cond_false (by kernel_rfl) (wp_exit ?_))
    exact HC.out _ _ mk ⟨by kernel_rfl, by kernel_rfl, by kernel_rfl, by kernel_rfl, by kernel_rfl⟩ HT.out HOM.out
end Go.Proofs.Qxb6602148a
