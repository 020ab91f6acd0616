import Derived.Test.Qxb6602170aBytes
import Derived.Deep.DeepCutAuto
namespace Go.Proofs.Qxb6602170a
open Go.RowKit
set_option linter.unusedVariables false

/-- The loop that writes the digits, from the last on. -/
def BufRel (r : Int) (BB : Nat) (w3 : World) (i n : Value) (wr : World) : Prop :=
  ∃ (k : Nat) (fb : Nat → Int), k ≤ 8 ∧ i = .int .i64 (10 - (k : Int)) ∧ n = .int .i64 (rem r k) ∧ IRow 31 .u8 wr BB 10 fb ∧ (∀ j, j < k → fb (9 - j) = 48 + rem r j % 10) ∧ w3.grownBy wr (some BB)

theorem Try.cells31 : (Try.prog.info? 31).map (fun i => (i.zero, i.size)) = some (some (.agg #[.int .u8 0, .int .u8 0, .int .u8 0, .int .u8 0, .int .u8 0, .int .u8 0, .int .u8 0, .int .u8 0, .int .u8 0, .int .u8 0]), 10) := by kernel_rfl

/-- The ten cells of the new buffer. -/
theorem buf_new (w : World) : IRow 31 .u8 (w.alloc (.cells #[.int .u8 0, .int .u8 0, .int .u8 0, .int .u8 0, .int .u8 0, .int .u8 0, .int .u8 0, .int .u8 0, .int .u8 0, .int .u8 0] 31)) w.heap.size 10 (fun _ => 0) := by
  refine ⟨_, by show (w.heap.push _)[w.heap.size]? = _; simp; rfl, rfl, ?_⟩
  intro j hj
  match j, hj with
  | 0, _ => rfl
  | 1, _ => rfl
  | 2, _ => rfl
  | 3, _ => rfl
  | 4, _ => rfl
  | 5, _ => rfl
  | 6, _ => rfl
  | 7, _ => rfl
  | 8, _ => rfl
  | 9, _ => rfl

theorem buf_all {r : Int} {k : Nat} {fb : Nat → Int} (hk : k ≤ 8) (h : ∀ j, j < k → fb (9 - j) = 48 + rem r j % 10) {x : Int} (hx : x = 48 + rem r k % 10) : ∀ j, j < k + 1 → upd fb (10 - k - 1) x (9 - j) = 48 + rem r j % 10 := by
  intro j hj
  by_cases e : j = k
  · subst e; rw [show 10 - j - 1 = 9 - j by omega, upd_same]; exact hx
  · rw [upd_other _ _ (by omega)]; exact h j (by omega)

/-- The line as far as it is written. -/
def LineRel (r : Int) (d : Nat) (f : Nat → Int) (n LB : Nat) (w4 : World) (p : Nat) (wr : World) : Prop :=
  ∃ fl, IRow 5 .u8 wr LB n fl ∧ (∀ j, j < p → fl j = lineOf r d f j) ∧ w4.grownBy wr (some LB)
theorem LineRel.step {r : Int} {d : Nat} {f : Nat → Int} {n LB : Nat} {w4 : World} {p : Nat} {wr : World} {fl : Nat → Int} (h1 : IRow 5 .u8 wr LB n fl) (h2 : ∀ j, j < p → fl j = lineOf r d f j) (h3 : w4.grownBy wr (some LB)) (x : Int) (hx : x = lineOf r d f p) :
    LineRel r d f n LB w4 (p + 1) (wr.setCell ⟨LB, p, none⟩ (.int .u8 x)) := by
  refine ⟨upd fl p x, h1.set _ _, ?_, grown_trans h3 (grown_set _ _ _ _)⟩
  intro j hj
  by_cases e : j = p
  · subst e; rw [upd_same]; exact hx
  · rw [upd_other _ _ e]; exact h2 j (by omega)

theorem key_byte : ∀ (j : Nat) (h : j < (⟨#[123, 34, 114, 101, 118, 105, 115, 105, 111, 110, 34, 58]⟩ : ByteArray).size), (((⟨#[123, 34, 114, 101, 118, 105, 115, 105, 111, 110, 34, 58]⟩ : ByteArray)[j]'h).toNat : Int) = key j := by
  intro j h
  match j, h with
  | 0, _ => rfl
  | 1, _ => rfl
  | 2, _ => rfl
  | 3, _ => rfl
  | 4, _ => rfl
  | 5, _ => rfl
  | 6, _ => rfl
  | 7, _ => rfl
  | 8, _ => rfl
  | 9, _ => rfl
  | 10, _ => rfl
  | 11, _ => rfl

theorem zlead_any (r : Int) (d n LB : Nat) (t : Nat → Int) (w : World) (hr0 : 0 ≤ r) (hr9 : r ≤ 999999999) (hd1 : 1 ≤ d) (hd9 : d ≤ 9) (hrem : rem r d = 0) (hn1 : 12 + d ≤ n) (hn2 : n ≤ 2000000)
    (hrow : IRow 5 .u8 w LB n (lineOf r d t)) (ht : ∀ j, 0 ≤ t j ∧ t j < 256) (hnd : 12 + d < n → ¬ (48 ≤ t 0 ∧ t 0 ≤ 57)) :
    Calls Try.prog 13 #[.slice (some ⟨LB, 0, none⟩) n n] w fun e w' => LeadPost r d n LB w e w' := by
  have h := lead_any r d n LB t w hr0 hr9 hd1 hd9 hrem hn1 hn2 hrow ht hnd
  have H : Hid (Calls Try.prog 20 #[.slice (some ⟨LB, 0, none⟩) n n] w fun e w' => LeadPost r d n LB w e w') := h
  clear h hrow ht hnd hrem
  go_enter Try.func13, Try.ntmps13
  go_wp2_with fail
  refine H.out.mono ?_
  rintro e w6 ⟨A, rfl, hA, B6⟩
  have HA : Hid (12 + d < n → A = some ⟨LB, 12 + d, none⟩) := hA
  clear hA
  go_wp2
  go_ret3
  exact ⟨A, rfl, HA.out, B6⟩

theorem zb_any (r : Int) (a : Option Addr) (len cap : Nat) (w : World) (hl : len ≤ 1048576) :
    Calls Try.prog 15 #[.int .i64 r, .slice a len cap] w fun e w' => e = .returned (.bool true) ∧ w = w' := by
  go_enter Try.func15, Try.ntmps15
  go_wp2
  go_ret
  exact ⟨rfl, rfl⟩

set_option maxRecDepth 100000 in
set_option maxHeartbeats 2000000 in
theorem line_walk (r : Int) (a : Option Addr) (len cap : Nat) (f : Nat → Int) (w : World) (h : IsByt w a len f) (hl : len ≤ 1048576) (hr0 : 0 ≤ r) (hr9 : r ≤ 999999999) (hnd : 0 < len → ¬ (48 ≤ f 0 ∧ f 0 ≤ 57)) :
    Calls Try.prog 6 #[.int .i64 r, .slice a len cap] w fun e w' => e = .returned (.bool true) ∧ Below w.heap.size w w' := by
  have H : Hid (IsByt w a len f) := h
  have HND : Hid (0 < len → ¬ (48 ≤ f 0 ∧ f 0 ≤ 57)) := hnd
  clear h hnd
  have d1 : decide ((1048576 : Int) < (len : Int)) = false := decide_eq_false (by omega)
  have d2 : decide (r < (0 : Int)) = false := decide_eq_false (by omega)
  have d3 : decide ((999999999 : Int) < r) = false := decide_eq_false (by omega)
  obtain ⟨i0, hi, hz0, hz1, hz2⟩ := info_parts Try.info5
  go_enter Try.func6, Try.ntmps6
  go_upto_region 7 with (go_at_call 15; refine (zb_any _ _ _ _ _ hl).mono ?_; rintro e w' ⟨rfl, rfl⟩)
  go_cut [39] (fun b w' => b = .bool false ∧ w' = w)
  case first =>
    by_cases h0 : len = 0
    · subst h0
      go_wp2
      go_meet
      case rel => exact ⟨rfl, rfl⟩
    · have hp : (0 : Int) < (len : Int) := by omega
      obtain ⟨_, hb, hc⟩ := H.out
      rcases hc with h | ⟨b, off, rfl, hc⟩
      · omega
      have hc0 := hc 0 (by omega)
      rw [Nat.add_zero] at hc0
      have hn := HND.out (by omega)
      generalize f 0 = c at hc0 hn
      clear hb hc
      by_cases h48 : 48 ≤ c
      · have d57 : decide (c ≤ 57) = false := decide_eq_false (fun h => hn ⟨h48, h⟩)
        go_wp2
        go_meet
        case rel => exact ⟨rfl, rfl⟩
      · have d48 : decide ((48 : Int) ≤ c) = false := decide_eq_false h48
        go_wp2
        go_meet
        case rel => exact ⟨rfl, rfl⟩
  case rest =>
    obtain ⟨rfl, hw⟩ := hcut
    subst hw
    go_wp2_with fail
    refine (clone_bytes a len cap f _ H.out hl).mono ?_
    rintro e w1 ⟨⟨ao, c, rfl, hao⟩, B1⟩
    have HO : Hid (OwnByt wc.heap.size w1 ao len f) := hao
    clear hao
    go_wp2
    have hbn := buf_new w1
    obtain ⟨w3, hw3⟩ : ∃ w3, w3 = w1.alloc (.cells #[.int .u8 0, .int .u8 0, .int .u8 0, .int .u8 0, .int .u8 0, .int .u8 0, .int .u8 0, .int .u8 0, .int .u8 0, .int .u8 0] 31) := ⟨_, rfl⟩
    rw [← hw3] at hbn ⊢
    have B3 : Below w1.heap.size w1 w3 := by rw [hw3]; exact (Below.refl _ _).alloc (Nat.le_refl _) _
    have HBN : Hid (IRow 31 .u8 w3 w1.heap.size 10 (fun _ => 0)) := hbn
    clear hw3 hbn
    generalize hBB : w1.heap.size = BB at *
    have HBB : Hid (w1.heap.size = BB) := hBB
    clear hBB
    go_loopw [6, 7] (fun i n wr => BufRel r BB w3 i n wr) (fun i _ _ => (intOf i).toNat)
    case atStart => exact ⟨0, _, by omega, rfl, rfl, HBN.out, fun j hj => by omega, World.grownBy.refl _ _⟩
    case round =>
      obtain ⟨k, fb, g1, rfl, rfl, hrow, hfb, hg⟩ := hrel
      have HF : Hid (∀ j, j < k → fb (9 - j) = 48 + rem r j % 10) := hfb
      clear hfb
      have cb := hrow.cell (show 10 - k - 1 < 10 by omega)
      have fz := hrow.frozen (10 - k - 1)
      have t0 := rem_nonneg r hr0 k
      have t1 := rem_le r hr0 k
      obtain ⟨T, hT⟩ : ∃ T, T = rem r k := ⟨_, rfl⟩
      have HT : Hid (T = rem r k) := hT
      rw [← hT] at t0 t1 ⊢
      clear hT
      go_wp2_with (at_make; refine wpList_make_full _ rfl (.tmp 62) (.tmp 62) 22 rfl BB 5 i0 (.int .u8 0) 1 Try.underlying22 hi hz0 hz1 _ _ _ _ (12 + (k + 1) + len) rfl rfl (by omega) (by omega) (by rw [hz2]; omega) (by unfold maxLen; omega) (by have := hrow.lt; simp; omega) ?_; intro w4 hown4 hgrow4)
      · have hz : (T / 10 == 0) = true := by assumption
        have r4 := IRow.made hown4 rfl
        have b4 := ((hrow.set (10 - k - 1) (48 + T % 10)).grown hgrow4 (by simp))
        have hall := buf_all g1 HF.out (x := 48 + T % 10) (by rw [HT.out])
        have hd0 : rem r (k + 1) = 0 := by show rem r k / 10 = 0; rw [← HT.out]; simpa using hz
        have hw : len = 0 ∨ ∃ q, ao = some ⟨q, 0, none⟩ ∧ q < BB ∧ IRow 5 .u8 w4 q len f := by
          rcases HO.out with h | ⟨q, e1, e2, e3⟩
          · exact .inl h
          · have hq : q < BB := by have := e3.lt; rw [HBB.out] at this; exact this
            have hq3 := e3.of_block (B3.block q hq)
            refine .inr ⟨q, e1, hq, ((hq3.grown hg (by simp; omega)).set_other (show q ≠ BB by omega) _).grown hgrow4 (by simp)⟩
        have hb4 : Below wc.heap.size wc w4 := by
          have h1 : wc.heap.size ≤ BB := by have := B1.size; rw [HBB.out] at this; exact this
          have h2 := hrow.lt
          have h3 := B3.size
          rw [HBB.out] at h3
          exact (((B1.trans (B3.mono h1)).grown hg (by omega) (by simp; omega)).setCell h1 _).grown hgrow4 (by simp; omega) (by simp)
        have hBL : BB < wr.heap.size := hrow.lt
        have hWB : wc.heap.size ≤ BB := by have := B1.size; rw [HBB.out] at this; exact this
        have r4' : IRow 5 .u8 w4 wr.heap.size (12 + (k + 1) + len) (fun _ => 0) := by simpa [World.setCell] using r4
        have hdig : ∀ j, j < k + 1 → upd fb (10 - k - 1) (48 + T % 10) (9 - k + j) = 48 + digAt r (k + 1) j := by
          intro j hj
          have := hall (k - j) (by omega)
          rw [show 9 - (k - j) = 9 - k + j by omega] at this
          rw [this]
          unfold digAt
          rw [show k + 1 - 1 - j = k - j by omega]
        clear hz HF HT cb fz t0 t1 hown4 hgrow4 hrow hg r4 hall
        rw [show (10 : Int) - (10 - (k : Int) - 1) = ((k + 1 : Nat) : Int) by omega, show (10 : Int) - (k : Int) - 1 = ((9 - k : Nat) : Int) by omega]
        have hd9 : k + 1 ≤ 9 := by omega
        have hd1 : 1 ≤ k + 1 := by omega
        have hsd : 9 - k + (k + 1) = 10 := by omega
        have HW : Hid (len = 0 ∨ ∃ q, ao = some ⟨q, 0, none⟩ ∧ q < BB ∧ IRow 5 .u8 w4 q len f) := hw
        have HFB : Hid (∀ i, 0 ≤ f i ∧ f i < 256) := H.out.2.1
        have HG : Hid (∀ j, j < k + 1 → upd fb (10 - k - 1) (48 + T % 10) (9 - k + j) = 48 + digAt r (k + 1) j) := hdig
        have HD0 : Hid (rem r (k + 1) = 0) := hd0
        clear hw hdig hd0 HO B1 B3 HBN HBB H
        generalize upd fb (10 - k - 1) (48 + T % 10) = fc at b4 HG
        generalize k + 1 = d at hd9 hd1 hsd HG HD0 r4' ⊢
        generalize 9 - k = sI at hsd HG ⊢
        generalize wr.heap.size = LB at hBL r4' ⊢
        obtain ⟨n, hn⟩ : ∃ n, n = 12 + d + len := ⟨_, rfl⟩
        rw [← hn] at r4' ⊢
        have hn1 : 12 + d + len ≤ n := by omega
        have hn2 : n ≤ 12 + d + len := by omega
        clear hn
        have S0 : Hid (LineRel r d f n LB w4 0 w4) := ⟨_, r4', fun j hj => by omega, World.grownBy.refl _ _⟩
        clear r4'
        go_loopw [11] (fun i wr => ∃ jj : Nat, jj ≤ 12 ∧ i = .int .i64 (jj : Int) ∧ LineRel r d f n LB w4 jj wr) (fun i _ => 12 - (intOf i).toNat)
        case atStart => exact ⟨0, by omega, rfl, S0.out⟩
        case round =>
          obtain ⟨jj, g2, rfl, fl, h1, h2, h3⟩ := hrel
          have H2 : Hid (∀ j, j < jj → fl j = lineOf r d f j) := h2
          clear h2
          by_cases hj : jj < 12
          · have c0 := h1.cell (show jj < n by omega)
            have f0 := h1.frozen jj
            go_wp2
            go_roundw
            case rel => exact ⟨jj + 1, by omega, by go_num, LineRel.step h1 H2.out h3 _ (by rw [lineOf_key _ _ _ _ hj]; exact key_byte jj _)⟩
            case measure => simp [intOf]; omega
          · have hjj : jj = 12 := by omega
            have S1 : Hid (LineRel r d f n LB w4 12 wr) := ⟨fl, h1, fun j hj => H2.out j (by omega), h3⟩
            have dj : decide ((jj : Int) < 12) = false := decide_eq_false (by omega)
            clear h1 h3 H2 S0 hjj
            go_wp2
            clear dj hj g2
            go_loopw [12] (fun i wr => ∃ jj : Nat, jj ≤ d ∧ i = .int .i64 (jj : Int) ∧ LineRel r d f n LB w4 (12 + jj) wr) (fun i _ => d - (intOf i).toNat)
            case atStart => exact ⟨0, by omega, rfl, S1.out⟩
            case round =>
              obtain ⟨jj, g3, rfl, fl, h1, h2, h3⟩ := hrel
              have H2 : Hid (∀ j, j < 12 + jj → fl j = lineOf r d f j) := h2
              clear h2
              by_cases hj : jj < d
              · have c0 := h1.cell (show 12 + jj < n by omega)
                have f0 := h1.frozen (12 + jj)
                have cb := (b4.grown h3 (by simp; omega)).cell (show sI + jj < 10 by omega)
                rw [HG.out jj hj] at cb
                go_wp2
                go_roundw
                case rel => exact ⟨jj + 1, by omega, by go_num, LineRel.step h1 H2.out h3 _ (by rw [lineOf_dig _ _ _ _ hj])⟩
                case measure => simp [intOf]; omega
              · obtain rfl : jj = d := by omega
                have S2 : Hid (LineRel r jj f n LB w4 (12 + jj) wr) := ⟨fl, h1, H2.out, h3⟩
                clear h1 h3 H2 S1
                go_wp2
                go_loopw [13] (fun i wr => ∃ ll : Nat, ll ≤ len ∧ i = .int .i64 (ll : Int) ∧ LineRel r jj f n LB w4 (12 + jj + ll) wr) (fun i _ => len - (intOf i).toNat)
                case atStart => exact ⟨0, by omega, rfl, S2.out⟩
                case round =>
                  obtain ⟨ll, g4, rfl, fl, h1, h2, h3⟩ := hrel
                  have H2 : Hid (∀ j, j < 12 + jj + ll → fl j = lineOf r jj f j) := h2
                  clear h2
                  by_cases hl2 : ll < len
                  · rcases HW.out with h | ⟨q, rfl, hq, hqr⟩
                    · omega
                    have c0 := h1.cell (show 12 + jj + ll < n by omega)
                    have f0 := h1.frozen (12 + jj + ll)
                    have hqL : q ≠ LB := by omega
                    have cq := (hqr.grown h3 (by simpa using hqL)).cell hl2
                    go_wp2
                    go_roundw
                    case rel => exact ⟨ll + 1, by omega, by go_num, LineRel.step h1 H2.out h3 _ (by rw [lineOf_tail])⟩
                    case measure => simp [intOf]; omega
                  · obtain rfl : ll = len := by omega
                    go_wp2_with fail
                    refine (zlead_any r jj n LB f wr hr0 hr9 hd1 hd9 HD0.out (by omega) (by omega) (h1.congr (fun j hj => H2.out j (by omega))) HFB.out (fun h => HND.out (by omega))).mono ?_
                    rintro e w6 ⟨A, rfl, hA, B6⟩
                    have HA : Hid (12 + jj < n → A = some ⟨LB, 12 + jj, none⟩) := hA
                    rw [show n - 12 - jj = ll by omega]
                    have hL6 : IRow 5 .u8 w6 LB n fl := h1.of_block (B6.block LB h1.lt)
                    have hT6 : Hid (ll = 0 ∨ ∃ q, ao = some ⟨q, 0, none⟩ ∧ IRow 5 .u8 w6 q ll f) := by
                      rcases HW.out with h | ⟨q, rfl, hq, hqr⟩
                      · exact .inl h
                      · have hg := hqr.grown h3 (show some q ≠ some LB by simp; omega)
                        exact .inr ⟨q, rfl, hg.of_block (B6.block q hg.lt)⟩
                    have hb6 : Hid (Below wc.heap.size wc w6) := by
                      have s3 := h3.size
                      have s4 := hb4.size
                      exact (hb4.grown h3 (by omega) (by simp; omega)).trans (B6.mono (by omega))
                    clear hA h1 h3 B6 HW HG HD0 HND b4 hb4 S2
                    go_wp2
                    go_loopw [17] (fun i w' => ∃ m : Nat, m ≤ ll ∧ i = .int .i64 (m : Int) ∧ w6.grownBy w' none) (fun i _ => ll - (intOf i).toNat)
                    case atStart => exact ⟨0, by omega, rfl, World.grownBy.refl _ _⟩
                    case round =>
                      obtain ⟨m, g5, rfl, hg6⟩ := hrel
                      by_cases hm : m < ll
                      · rcases hT6.out with h | ⟨q, rfl, hqr⟩
                        · omega
                        have hA := HA.out (by omega)
                        subst hA
                        have cq := (hqr.grown hg6 (by simp)).cell hm
                        have cl := (hL6.grown hg6 (by simp)).cell (show 12 + jj + m < n by omega)
                        rw [H2.out _ (by omega), lineOf_tail] at cl
                        go_wp2
                        go_quiet (fail)
                        go_wp2
                        go_roundw
                        case rel => exact ⟨m + 1, by omega, by go_num, grown_drewN hg6 _⟩
                        case measure => simp [intOf]; omega
                      · have hb7 := hb6.out.grown hg6 (by have := hb6.out.size; omega) (by simp)
                        go_wp2
                        go_ret
                        exact ⟨rfl, hb7⟩
      · have hz : (T / 10 == 0) = false := by assumption
        have hz' : T / 10 ≠ 0 := by simpa using hz
        have k8 : k + 1 ≤ 8 := by
          rcases Nat.lt_or_ge k 8 with h | h
          · omega
          · exfalso
            obtain rfl : k = 8 := by omega
            apply hz'
            rw [HT.out]
            exact rem_nine r hr0 hr9
        go_roundw
        case rel => exact ⟨k + 1, upd fb (10 - k - 1) (48 + T % 10), k8, by go_num, by rw [HT.out]; rfl, hrow.set _ _, buf_all g1 HF.out (by rw [HT.out]), grown_trans hg (grown_set _ _ _ _)⟩
        case measure => simp [intOf]; omega
end Go.Proofs.Qxb6602170a
