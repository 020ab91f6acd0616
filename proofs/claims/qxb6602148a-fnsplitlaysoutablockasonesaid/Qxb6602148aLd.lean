/-
  A view as it lies in memory; 'zzInUse', 'zzSameList'.
-/
import Derived.Test.Qxb6602148aLb
import Derived.BigQuiet
attribute [local go_sem] Go.Proofs.Qxb6602148a.yTo Go.Proofs.Qxb6602148a.yUpon
namespace Go.Proofs.Qxb6602148a
open Go.RowKit
set_option linter.unusedVariables false
set_option linter.unusedSimpArgs false

/-- A view of P, in the struct at block g. -/
structure VIn (w : World) (g : Nat) (P : PS) : Prop where
  v0 : Rdi w g 0 P.nE P.fr
  v1 : Rdi w g 1 P.nE P.to
  v2 : Rdi w g 2 P.nS P.node
  v3 : Rdi w g 3 P.nS P.comp
  v4 : Rdl w g 4 P.nS P.on P.out
  v5 : Rdl w g 5 P.nC P.mn P.mem
  n5 : Rdn w g 5 P.nC P.mn
  v6 : Rdi w g 6 P.nC P.edg
theorem vin_of {w : World} {V : Fam} {P : PS} {g : Nat} (hb : w.heap[g]? = some (.cells #[V.val 0, V.val 1, V.val 2, V.val 3, V.val 4, V.val 5, V.val 6] 35)) (hR : Rep KV w V) (hV : VM V P) : VIn w g P := by
  have hg : Grew Fam.nil w Fam.nil w := Grew.refl _ _
  have cv : ∀ (j : Nat) (v : Value), (#[V.val 0, V.val 1, V.val 2, V.val 3, V.val 4, V.val 5, V.val 6] : Array Value)[j]? = some v → w.cell? ⟨g, j, none⟩ = some v := by
    intro j v hv; rw [cell_of_row w _ j _ _ _ hb]; exact hv
  have lst : ∀ (i n : Nat) (o : Nat → Nat) (m : Nat → Nat) (f : Nat → Nat → Int), V.n i = n → (KV i = (26, 1)) → (∀ j, j < n → V.F i j = V.val (o j)) → (∀ j, j < n → Ints V (o j) (m j) (f j)) → (∀ j, KV (o j) = (3, 1)) → w.cell? ⟨g, i, none⟩ = some (V.val i) → Rdl w g i n m f := by
    intro i n o m f hn hK hF hI hKo hc
    refine ⟨(V.b i).map fun g => ⟨g, 0, none⟩, V.cap i, by rw [hc]; unfold Fam.val; rw [hn], fun j hj => ?_⟩
    obtain ⟨b, hb⟩ := hR.hasBlock (i := i) (by rw [hn]; omega)
    have hle := hR.le_cap i
    rw [hn] at hle
    refine ⟨b, by rw [hb]; rfl, hle, ?_⟩
    have hcell := hR.cell hb (j := j) (by rw [hn, hK]; show j < n * 1; omega)
    rw [hF j hj] at hcell
    exact (hI j hj).rdi hR (hKo j) hg (hg.cell hcell)
  refine ⟨hV.fr.rdi hR rfl hg (cv 0 _ rfl), hV.tto.rdi hR rfl hg (cv 1 _ rfl), hV.node.rdi hR rfl hg (cv 2 _ rfl), hV.comp.rdi hR rfl hg (cv 3 _ rfl), lst 4 P.nS (fun j => 7 + 2 * j) P.on P.out hV.n4 rfl hV.F4 hV.o4 KV_o (cv 4 _ rfl), lst 5 P.nC (fun j => 8 + 2 * j) P.mn P.mem hV.n5 rfl hV.F5 hV.m5 KV_m (cv 5 _ rfl), ?_, hV.edg.rdi hR rfl hg (cv 6 _ rfl)⟩
  intro o k ho j hj
  have h5 := cv 5 _ rfl
  rw [h5] at ho
  injection ho with ho
  unfold Fam.val at ho
  injection ho with ho1 ho2 ho3
  obtain ⟨b, hb⟩ := hR.hasBlock (i := 5) (by rw [hV.n5]; omega)
  have hcell := hR.cell hb (j := j) (by rw [hV.n5]; show j < P.nC * 1; omega)
  rw [hV.F5 j hj] at hcell
  refine ⟨b, by rw [← ho1, hb]; rfl, (V.b (8 + 2 * j)).map fun g => ⟨g, 0, none⟩, V.cap (8 + 2 * j), ?_, ?_⟩
  · rw [hg.cell hcell]; unfold Fam.val; rw [(hV.m5 j hj).1]
  · rw [← hV.z5 j hj]; simp
/-- A list that is not nil. -/
theorem Rdl.some {w w' : World} {D : Fam} {g i n : Nat} {m : Nat → Nat} {f : Nat → Nat → Int} (h : Rdl w g i n m f) (hg : Grew Fam.nil w D w') {j : Nat} (hj : j < n) (h0 : m j ≠ 0) : ∃ b k b' l, w'.cell? ⟨g, i, none⟩ = Option.some (.slice (Option.some ⟨b, 0, none⟩) n k) ∧ n ≤ k ∧ w'.cell? ⟨b, j, none⟩ = Option.some (.slice (Option.some ⟨b', 0, none⟩) (m j) l) ∧ m j ≤ l ∧ ∀ q, q < m j → w'.cell? ⟨b', q, none⟩ = Option.some (.int .i64 (f j q)) := by
  obtain ⟨o, k, h1, h2⟩ := h
  obtain ⟨b, rfl, h3, h4⟩ := h2 j hj
  obtain ⟨o', k', h5, h6⟩ := h4
  obtain ⟨b', rfl, h7, _⟩ := h6 0 (by omega)
  refine ⟨b, k, b', k', hg.cell h1, h3, hg.cell h5, h7, fun q hq => ?_⟩
  obtain ⟨b'', e, _, h9⟩ := h6 q hq
  injection e with e
  injection e with e
  subst e
  exact hg.cell h9

/-- Component c is in use. -/
def InU (P : PS) (c : Int) : Prop := 0 ≤ c ∧ c.toNat < P.nC ∧ P.mn c.toNat ≠ 0
def RetU (w : World) (P : PS) (c : Int) (e : Ending) (w' : World) : Prop := ∃ b : Bool, e = .returned (.bool b) ∧ (b = true ↔ InU P c) ∧ Grew Fam.nil w Fam.nil w'
set_option maxHeartbeats 2000000 in
theorem inUse_calls (w : World) (V : Fam) (P : PS) (c : Int) (hR : Rep KV w V) (hV : VM V P) (hC : P.nC ≤ 200000) (hc : c ≤ 9223372036854775807 ∧ -9223372036854775808 ≤ c) :
    Calls Try.prog 15 #[.agg #[V.val 0, V.val 1, V.val 2, V.val 3, V.val 4, V.val 5, V.val 6], .int .i64 c] w (RetU w P c) := by
  have hin : VIn (w.alloc (.cells #[V.val 0, V.val 1, V.val 2, V.val 3, V.val 4, V.val 5, V.val 6] 35)) w.heap.size P := vin_of (heap_alloc_new w _) (hR.alloc _) hV
  have hg : Grew Fam.nil (w.alloc (.cells #[V.val 0, V.val 1, V.val 2, V.val 3, V.val 4, V.val 5, V.val 6] 35)) Fam.nil (w.alloc (.cells #[V.val 0, V.val 1, V.val 2, V.val 3, V.val 4, V.val 5, V.val 6] 35)) := Grew.refl _ _
  have HG : Hid (Grew Fam.nil w Fam.nil (w.alloc (.cells #[V.val 0, V.val 1, V.val 2, V.val 3, V.val 4, V.val 5, V.val 6] 35))) := (Grew.refl Fam.nil w).alloc _
  have hnil := fun (a : Option Addr) (n c : Nat) (w : World) => Lib.run_eql_slice_nil (P := Try.prog) w 26 3 a n c 0 0 Try.underlying26
  obtain ⟨o5, k5, x5⟩ := hin.v5.len hg
  by_cases h1 : c < 0
  · have fin : Hid (¬ InU P c) := fun h => by have := h.1; omega
    have dg : decide (0 ≤ c) = false := decide_eq_false (by omega)
    clear hin hg
    go_enter Try.func15, Try.ntmps15
    go_wp2
    go_ret
    exact ⟨false, rfl, ⟨fun h => absurd h (by simp), fun h => absurd h fin.out⟩, HG.out⟩
  · obtain ⟨n, rfl⟩ : ∃ n : Nat, c = (n : Int) := ⟨c.toNat, by omega⟩
    by_cases h2 : n < P.nC
    · have h3 : (n : Int) < (P.nC : Int) := by omega
      by_cases h0 : P.mn n = 0
      · obtain ⟨b5, l5, m5, z1, z2, z3⟩ := hin.v5.nil hin.n5 hg h2 h0
        have fin : Hid (¬ InU P (n : Int)) := fun h => by have := h.2.2; rw [Int.toNat_natCast] at this; exact this h0
        clear hin hg x5 h0 h1
        go_enter Try.func15, Try.ntmps15
        go_wp2
        go_ret
        exact ⟨false, rfl, ⟨fun h => absurd h (by simp), fun h => absurd h fin.out⟩, HG.out⟩
      · obtain ⟨b5, l5, b5', m5, z1, z2, z3, z4, _⟩ := hin.v5.some hg h2 h0
        have fin : Hid (InU P (n : Int)) := ⟨by omega, by rw [Int.toNat_natCast]; exact h2, by rw [Int.toNat_natCast]; exact h0⟩
        clear hin hg x5 h0 h1
        go_enter Try.func15, Try.ntmps15
        go_wp2
        go_ret
        exact ⟨true, rfl, ⟨fun _ => fin.out, fun _ => rfl⟩, HG.out⟩
    · have h3 : ¬ (n : Int) < (P.nC : Int) := by omega
      have fin : Hid (¬ InU P (n : Int)) := fun h => by have := h.2.1; rw [Int.toNat_natCast] at this; omega
      have dg : decide ((n : Int) < (P.nC : Int)) = false := decide_eq_false h3
      have dg2 : decide (n < P.nC) = false := decide_eq_false h2
      clear hin hg h1
      go_enter Try.func15, Try.ntmps15
      go_wp2
      go_ret
      exact ⟨false, rfl, ⟨fun h => absurd h (by simp), fun h => absurd h fin.out⟩, HG.out⟩

def LsI (n : Nat) (u0 u1 : Value) (w0 : World) (a : Act) (w : World) : Prop := a.tmps.size = 33 ∧ a.defers = [] ∧ a.tmps.getD 0 undef = u0 ∧ a.tmps.getD 1 undef = u1 ∧ ∃ i : Nat, a.tmps.getD 5 undef = .int .i64 (i : Int) ∧ i ≤ n ∧ ∃ k, w = w0.drewN k
set_option maxRecDepth 40000 in
theorem arr_33 (arr : Array Value) (h : arr.size = 33) : ∃ y : Nat → Value, arr = #[y 0, y 1, y 2, y 3, y 4, y 5, y 6, y 7, y 8, y 9, y 10, y 11, y 12, y 13, y 14, y 15, y 16, y 17, y 18, y 19, y 20, y 21, y 22, y 23, y 24, y 25, y 26, y 27, y 28, y 29, y 30, y 31, y 32] ∧ ∀ i, y i = arr.getD i undef := by
  refine ⟨fun i => arr.getD i undef, ?_, fun _ => rfl⟩
  exact (arr_map arr 33 h undef).trans (by kernel_rfl)
set_option maxRecDepth 40000 in
theorem ls1 {a : Act} {u0 u1 : Value} (hs : a.tmps.size = 33) (hd : a.defers = []) (h0 : a.tmps.getD 0 undef = u0) (h1 : a.tmps.getD 1 undef = u1) : ∃ y : Nat → Value, a = { tmps := #[u0, u1, y 2, y 3, y 4, y 5, y 6, y 7, y 8, y 9, y 10, y 11, y 12, y 13, y 14, y 15, y 16, y 17, y 18, y 19, y 20, y 21, y 22, y 23, y 24, y 25, y 26, y 27, y 28, y 29, y 30, y 31, y 32], defers := [] } := by
  obtain ⟨tmps, defers⟩ := a
  have yd : defers = [] := hd
  subst yd
  obtain ⟨y, hy, hi⟩ := arr_33 tmps hs
  have e0 := (hi 0).trans h0
  have e1 := (hi 1).trans h1
  rw [e0, e1] at hy
  exact ⟨y, congrArg (fun t => (⟨t, []⟩ : Act)) hy⟩
set_option maxRecDepth 40000 in
theorem ls5 {a : Act} {u0 u1 u5 : Value} (hs : a.tmps.size = 33) (hd : a.defers = []) (h0 : a.tmps.getD 0 undef = u0) (h1 : a.tmps.getD 1 undef = u1) (h5 : a.tmps.getD 5 undef = u5) : ∃ y : Nat → Value, a = { tmps := #[u0, u1, y 2, y 3, y 4, u5, y 6, y 7, y 8, y 9, y 10, y 11, y 12, y 13, y 14, y 15, y 16, y 17, y 18, y 19, y 20, y 21, y 22, y 23, y 24, y 25, y 26, y 27, y 28, y 29, y 30, y 31, y 32], defers := [] } := by
  obtain ⟨tmps, defers⟩ := a
  have yd : defers = [] := hd
  subst yd
  obtain ⟨y, hy, hi⟩ := arr_33 tmps hs
  have e0 := (hi 0).trans h0
  have e1 := (hi 1).trans h1
  have e5 := (hi 5).trans h5
  rw [e0, e1, e5] at hy
  exact ⟨y, congrArg (fun t => (⟨t, []⟩ : Act)) hy⟩

theorem drewN_drewN (w : World) (a b : Nat) : ∃ k, (w.drewN a).drewN b = w.drewN k := ⟨a + b, by
  induction b with
  | zero => rfl
  | succ b ih => exact congrArg World.drew ih⟩
set_option maxRecDepth 40000 in
set_option maxHeartbeats 2000000 in
/-- Two lists alike. -/
theorem sameList_calls (w : World) (o1 o2 : Option Addr) (n k1 k2 : Nat) (f : Nat → Int) (hn : n ≤ 1000000) (hnil : o1 = none ↔ o2 = none) (h1 : ∀ j, j < n → ∃ b, o1 = some ⟨b, 0, none⟩ ∧ n ≤ k1 ∧ w.cell? ⟨b, j, none⟩ = some (.int .i64 (f j))) (h2 : ∀ j, j < n → ∃ b, o2 = some ⟨b, 0, none⟩ ∧ n ≤ k2 ∧ w.cell? ⟨b, j, none⟩ = some (.int .i64 (f j))) :
    Calls Try.prog 17 #[.slice o1 n k1, .slice o2 n k2] w fun e w' => e = .returned (.bool true) ∧ ∃ k, w' = w.drewN k := by
  have hnl := fun (a : Option Addr) (n c : Nat) (w : World) => Lib.run_eql_slice_nil (P := Try.prog) w 26 3 a n c 0 0 Try.underlying26
  have H1 : Hid (∀ j, j < n → ∃ b, o1 = some ⟨b, 0, none⟩ ∧ n ≤ k1 ∧ w.cell? ⟨b, j, none⟩ = some (.int .i64 (f j))) := h1
  have H2 : Hid (∀ j, j < n → ∃ b, o2 = some ⟨b, 0, none⟩ ∧ n ≤ k2 ∧ w.cell? ⟨b, j, none⟩ = some (.int .i64 (f j))) := h2
  clear h1 h2
  refine calls_of_wp (c := (Try.f17.body.getD .skip)) Try.func17 rfl ?_
  have hfr : ({ tmps := #[.slice o1 n k1, .slice o2 n k2] ++ Array.replicate (Try.f17.ntmps - (#[.slice o1 n k1, .slice o2 n k2] : Array Value).size) undef, defers := [] } : Act) = { tmps := #[.slice o1 n k1, .slice o2 n k2, undef, undef, undef, undef, undef, undef, undef, undef, undef, undef, undef, undef, undef, undef, undef, undef, undef, undef, undef, undef, undef, undef, undef, undef, undef, undef, undef, undef, undef, undef, undef], defers := [] } := by kernel_rfl
  rw [hfr]
  clear hfr
  have AFTER : Hid (∀ (a : Act) (w' : World), a.tmps.size = 33 → a.defers = [] → a.tmps.getD 0 undef = .slice o1 n k1 → a.tmps.getD 1 undef = .slice o2 n k2 → w' = w → Code.wp Try.prog (tl 2 (Try.f17.body.getD .skip)) (bodyPost Try.prog Try.f17 fun e w' => e = .returned (.bool true) ∧ ∃ k, w' = w.drewN k) a w') := by
    rintro a w' hs hd h0 h1 rfl
    obtain ⟨y, rfl⟩ := ls1 hs hd h0 h1
    clear hs hd h0 h1 hnil
    show Code.wp Try.prog (Code.seq (Code.seq _ (Code.block 0 (Code.loop (Code.seq (Code.seq _ (Code.cond (.tmp 21) Code.skip (Code.exit 0))) (Code.seq (Code.block 1 (Code.seq _ (Code.cond (.tmp 32) _ Code.skip))) _))))) (tl 3 (Try.f17.body.getD .skip))) _ _ w'
    refine wp_seq_k (fun K9 hK => ?_)
    have HK : Hid (∀ (a : Act) (w : World), _ → K9 a w) := hK
    clear hK
    refine wp_seq_k (fun K8 hK => ?_)
    have HK8 : Hid (∀ (a : Act) (w : World), _ → K8 a w) := hK
    clear hK
    go_wp2
    refine HK8.out _ _ ?_
    clear HK8 K8
    refine wp_block ?_
    refine wp_loop (LsI n (.slice o1 n k1) (.slice o2 n k2) w') (fun a _ => mus 5 n a) ⟨by kernel_rfl, by kernel_rfl, by kernel_rfl, by kernel_rfl, 0, by kernel_rfl, Nat.zero_le _, 0, rfl⟩ ?_
    rintro a w2 ⟨hs, hd, h0, h1, i, h5, i1, k, rfl⟩
    have e5 : mus 5 n a = n - i := congrArg (fun v => n - (intOf v).toNat) h5
    obtain ⟨y2, rfl⟩ := ls5 hs hd h0 h1 h5
    rw [e5]
    clear e5 hs hd h0 h1 h5
    refine wp_seq_k (fun K1 hK => ?_)
    have HK1 : Hid (∀ (a : Act) (w : World), _ → K1 a w) := hK
    clear hK
    refine wp_seq_k (fun K2 hK => ?_)
    have HK2 : Hid (∀ (a : Act) (w : World), _ → K2 a w) := hK
    clear hK
    by_cases hi : i < n
    · have hii : (i : Int) < (n : Int) := by omega
      obtain ⟨b1, rfl, c1, c2⟩ := H1.out i hi
      obtain ⟨b2, rfl, c3, c4⟩ := H2.out i hi
      have c2' : (w'.drewN k).cell? ⟨b1, i, none⟩ = some (.int .i64 (f i)) := c2
      have c4' : (w'.drewN k).cell? ⟨b2, i, none⟩ = some (.int .i64 (f i)) := c4
      have HD : Hid (∀ j, ∃ q, (w'.drewN k).drewN j = w'.drewN q) := fun j => drewN_drewN w' k j
      clear c2 c4
      generalize f i = fi at *
      generalize w'.drewN k = wk at *
      go_wp2
      refine HK2.out _ _ (wp_cond_true (by kernel_rfl) (wp_skip ?_))
      refine HK1.out _ _ ?_
      clear HK1 K1 HK2 K2
      refine wp_seq_k (fun K1 hK => ?_)
      have HK1 : Hid (∀ (a : Act) (w : World), _ → K1 a w) := hK
      clear hK
      refine wp_block ?_
      refine wp_seq_k (fun K2 hK => ?_)
      have HK2 : Hid (∀ (a : Act) (w : World), _ → K2 a w) := hK
      clear hK
      go_quiet (fail)
      refine HK2.out _ _ (wp_cond_false (by kernel_rfl) (wp_skip ?_))
      refine HK1.out _ _ ?_
      clear HK1 K1 HK2 K2 c2' c4'
      obtain ⟨q, hq⟩ := HD.out nq
      have HQ : Hid (wk.drewN nq = w'.drewN q) := hq
      clear hq HD
      generalize wk.drewN nq = wl at *
      go_wp2
      exact ⟨⟨by kernel_rfl, by kernel_rfl, by kernel_rfl, by kernel_rfl, i + 1, by kernel_rfl, by omega, q, HQ.out⟩, Nat.lt_of_le_of_lt (Nat.le_of_eq (by kernel_rfl : _ = n - (i + 1))) (by omega)⟩
    · have hii : ¬ (i : Int) < (n : Int) := by omega
      obtain rfl : i = n := by omega
      go_wp2
      refine HK2.out _ _ (wp_cond_false (by kernel_rfl) (wp_exit ?_))
      refine HK.out _ _ ?_
      simp only [tl, Try.f17, Option.getD]
      go_wp2
      go_ret
      exact ⟨rfl, k, rfl⟩
  show Code.wp Try.prog (Code.seq _ (Code.seq (Code.seq _ (Code.cond (.tmp 17) _ Code.skip)) (tl 2 (Try.f17.body.getD .skip)))) _ _ w
  refine wp_seq_k (fun K1 hK => ?_)
  have HK : Hid (∀ (a : Act) (w : World), _ → K1 a w) := hK
  clear hK
  go_wp2
  refine HK.out _ _ ?_
  clear HK K1
  refine wp_seq_k (fun K1 hK => ?_)
  have HK : Hid (∀ (a : Act) (w : World), _ → K1 a w) := hK
  clear hK
  cases o1 with
  | none =>
    have e2 := hnil.1 rfl
    subst e2
    clear hnil
    go_wp2
    refine HK.out _ _ ?_
    exact AFTER.out _ _ (by kernel_rfl) (by kernel_rfl) (by kernel_rfl) (by kernel_rfl) rfl
  | some a1 =>
    cases o2 with
    | none => exact absurd (hnil.2 rfl) (by simp)
    | some a2 =>
      clear hnil
      go_wp2
      refine HK.out _ _ ?_
      exact AFTER.out _ _ (by kernel_rfl) (by kernel_rfl) (by kernel_rfl) (by kernel_rfl) rfl
end Go.Proofs.Qxb6602148a
