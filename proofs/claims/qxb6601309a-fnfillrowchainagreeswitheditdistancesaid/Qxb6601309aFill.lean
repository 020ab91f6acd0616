import Derived.Test.Qxb6601309aRows
import Derived.Test.Qxb6601309aPlain
import Derived.Test.Qxb6601309aMem
import Derived.WalkKit
import Derived.WalkLawsBesides
import Derived.RegionTactic
import Derived.LoopTactic
namespace Go.Proofs.Qxb6601309a
open Go.RowKit

theorem ret_int {k : IntKind} {a b : Int} (h : a = b) : Ending.returned (.int k a) = .returned (.int k b) := by rw [h]

/-- 'min' of four. -/
theorem run_min4 (w : World) (ts : Array TypeId) (t : TypeId) (a b c d : Int) : (Builtin.min_ ts t #[.int .i64 a, .int .i64 b, .int .i64 c, .int .i64 d]).run Try.prog w = .ok (.int .i64 (min (min (min a b) c) d)) w := by
  simp [Builtin.min_, Builtin.min2, min2_eq]

/-- What holds at the head of each round: the cells below 'jj' are done. -/
def FillRel (A W : Nat → Int) (r m i : Nat) (w : World) (l j : Value) (wr : World) : Prop :=
  ∃ (jj : Nat) (f : Nat → Int) (L : Int), i - 2 ≤ jj ∧ jj ≤ min m (i + 2) + 1 ∧ j = .int .i64 (jj : Int) ∧ l = .int .i64 L ∧ L = Ed.least f (i - 2) (jj - (i - 2)) ∧ IRow 3 .i64 wr r (m + 1) f ∧
    (∀ k, k ≤ m → i ≤ k + 3 → k < jj → f k = Ed.cap (Ed.row A W i k)) ∧ (i + 3 ≤ m → f (i + 3) = 3) ∧ w.grownBy wr (some r)

theorem fill_step {A W : Nat → Int} {r m i : Nat} {w wr : World} {jj : Nat} {f : Nat → Int} (h1 : i - 2 ≤ jj) (h2 : jj ≤ min m (i + 2)) (hr : IRow 3 .i64 wr r (m + 1) f)
    (hf : ∀ k, k ≤ m → i ≤ k + 3 → k < jj → f k = Ed.cap (Ed.row A W i k)) (ho : i + 3 ≤ m → f (i + 3) = 3) (hg : w.grownBy wr (some r)) {L : Int} (hL : L = Ed.least f (i - 2) (jj - (i - 2))) (x y z : Int) (hx : x = Ed.cap (Ed.row A W i jj)) (hy : y = min L x) (hz : z = (jj : Int) + 1) :
    FillRel A W r m i w (.int .i64 y) (.int .i64 z) (wr.setCell ⟨r, jj, none⟩ (.int .i64 x)) := by
  refine ⟨jj + 1, upd f jj x, y, by omega, by omega, by rw [hz]; simp, rfl, ?_, hr.set jj x, ?_, ?_, grown_trans hg (grown_set _ _ _ _)⟩
  · rw [hy, hL, show jj + 1 - (i - 2) = (jj - (i - 2)) + 1 by omega]
    simp only [Ed.least]
    rw [show i - 2 + (jj - (i - 2)) = jj by omega, upd_same]
    rw [Ed.least_congr (upd f jj x) f (i - 2) (jj - (i - 2)) (fun k hk => upd_other _ _ (by omega))]
  · intro k hk hk2 hk3
    by_cases e : k = jj
    · subst e; rw [upd_same]; exact hx
    · rw [upd_other _ _ e]; exact hf k hk hk2 (by omega)
  · intro h
    rw [upd_other _ _ (by omega)]
    exact ho h

theorem FillRel.drew {A W : Nat → Int} {r m i : Nat} {w wr : World} {l j : Value} (h : FillRel A W r m i w l j wr) : FillRel A W r m i w l j wr.drew := by
  obtain ⟨jj, f, L, h1, h2, h3, h4, h4', h5, h6, h7, h8⟩ := h
  exact ⟨jj, f, L, h1, h2, h3, h4, h4', h5.drew, h6, h7, grown_drew h8⟩

/-- The end. -/
theorem fill_end {A W : Nat → Int} {r m i : Nat} {w wr : World} {f : Nat → Int} (hi2 : i ≤ m + 3) (hr : IRow 3 .i64 wr r (m + 1) f)
    (hf : ∀ k, k ≤ m → i ≤ k + 3 → k < min m (i + 2) + 1 → f k = Ed.cap (Ed.row A W i k)) (ho : i + 3 ≤ m → f (i + 3) = 3) (hg : w.grownBy wr (some r)) :
    Ed.least f (i - 2) (min m (i + 2) + 1 - (i - 2)) = Ed.least (Ed.row A W i) 0 (m + 1) ∧ w.grownBy wr (some r) ∧
        ∃ fr', IRow 3 .i64 wr r (m + 1) fr' ∧ ∀ j, j ≤ m → i ≤ j + 3 → j ≤ i + 3 → fr' j = Ed.cap (Ed.row A W i j) := by
  refine ⟨?_, hg, f, hr, ?_⟩
  · rw [← Ed.least_band A W i m (i - 2) (min m (i + 2) + 1 - (i - 2)) rfl (by omega)]
    exact Ed.least_congr _ _ _ _ (fun k hk => hf _ (by omega) (by omega) (by omega))
  · intro j h1 h2 h3
    by_cases e : j = i + 3
    · subst e
      rw [ho h1, Ed.cap_far A W i (i + 3) (Or.inl (Nat.le_refl _))]
    · exact hf j h1 h2 (by omega)

/-- The beginning: the cells beside the band hold 3. -/
theorem fill_start {A W : Nat → Int} {r m i : Nat} {w wr : World} {f : Nat → Int} (hi2 : i ≤ m + 3) (hr : IRow 3 .i64 wr r (m + 1) f)
    (hl : 3 ≤ i → f (i - 3) = 3) (ho : i + 3 ≤ m → f (i + 3) = 3) (hg : w.grownBy wr (some r)) (z : Int) (hz : z = ((i - 2 : Nat) : Int)) :
    FillRel A W r m i w (.int .i64 3) (.int .i64 z) wr := by
  refine ⟨i - 2, f, 3, Nat.le_refl _, by omega, by rw [hz], rfl, by rw [Nat.sub_self]; rfl, hr, ?_, ho, hg⟩
  intro k hk h1 h2
  obtain rfl : k = i - 3 := by omega
  rw [hl (by omega), Ed.cap_far A W i (i - 3) (Or.inr (by omega))]

theorem cap_bounds (a w : Nat → Int) (i j : Nat) : 0 ≤ Ed.cap (Ed.row a w i j) ∧ Ed.cap (Ed.row a w i j) ≤ 3 := by
  have := Ed.row_bounds a w i j
  unfold Ed.cap
  omega

/-- A capped cell, under a name of its own. -/
theorem capped {w : World} {b n : Nat} {f : Nat → Int} (h : IRow 3 .i64 w b n f) {s : Nat} (hs : s < n) (a v : Nat → Int) (i : Nat) (e : f s = Ed.cap (Ed.row a v i s)) :
    ∃ x : Int, w.cell? ⟨b, s, none⟩ = some (.int .i64 x) ∧ Hid (x = Ed.cap (Ed.row a v i s)) ∧ 0 ≤ x ∧ x ≤ 3 :=
  ⟨f s, h.cell hs, e, by rw [e]; exact (cap_bounds a v i s).1, by rw [e]; exact (cap_bounds a v i s).2⟩

theorem cell_ne {A W : Nat → Int} {i s : Nat} (hi : 1 ≤ i) {x0 x1 x2 : Int} (X0 : Hid (x0 = Ed.cap (Ed.row A W i s))) (X1 : Hid (x1 = Ed.cap (Ed.row A W (i - 1) s))) (X2 : Hid (x2 = Ed.cap (Ed.row A W (i - 1) (s + 1))))
    (h : (W s != A (i - 1)) = true) : min (min (min (x1 + 1) (x2 + 1)) (x0 + 1)) 3 = Ed.cap (Ed.row A W i (s + 1)) := by
  obtain ⟨i', rfl⟩ : ∃ i', i = i' + 1 := ⟨i - 1, by omega⟩
  simp only [Nat.add_sub_cancel] at X1 X2 h
  rw [X0.out, X1.out, X2.out, Ed.cap_step, if_neg (by simpa using h)]
theorem cell_eq {A W : Nat → Int} {i s : Nat} (hi : 1 ≤ i) {x0 x1 x2 : Int} (X0 : Hid (x0 = Ed.cap (Ed.row A W i s))) (X1 : Hid (x1 = Ed.cap (Ed.row A W (i - 1) s))) (X2 : Hid (x2 = Ed.cap (Ed.row A W (i - 1) (s + 1))))
    (h : (W s != A (i - 1)) = false) : min (min (min x1 (x2 + 1)) (x0 + 1)) 3 = Ed.cap (Ed.row A W i (s + 1)) := by
  obtain ⟨i', rfl⟩ : ∃ i', i = i' + 1 := ⟨i - 1, by omega⟩
  simp only [Nat.add_sub_cancel] at X1 X2 h
  rw [X0.out, X1.out, X2.out, Ed.cap_step, if_pos (by simpa using h), Int.add_zero]

set_option maxHeartbeats 2000000 in
theorem fill_q (A W : Nat → Int) (r p q m i : Nat) (fr fp : Nat → Int) (w : World) (hm : m ≤ 4096) (hi1 : 1 ≤ i) (hi2 : i ≤ m + 3)
    (hr : IRow 3 .i64 w r (m + 1) fr) (hp : IRow 3 .i64 w p (m + 1) fp) (hq : IRow 21 .i32 w q m W) (hrp : p ≠ r) (hrq : q ≠ r)
    (hfp : ∀ j, j ≤ m → i ≤ j + 3 → j ≤ i + 2 → fp j = Ed.cap (Ed.row A W (i - 1) j)) :
    Calls Try.prog 26 #[.slice (some ⟨r, 0, none⟩) (m + 1) (m + 1), .slice (some ⟨p, 0, none⟩) (m + 1) (m + 1), .int .i32 (A (i - 1)), .slice (some ⟨q, 0, none⟩) m m, .int .i64 (i : Int)] w
      fun e w' => e = .returned (.int .i64 (Ed.least (Ed.row A W i) 0 (m + 1))) ∧ w.grownBy w' (some r) ∧
        ∃ fr', IRow 3 .i64 w' r (m + 1) fr' ∧ ∀ j, j ≤ m → i ≤ j + 3 → j ≤ i + 3 → fr' j = Ed.cap (Ed.row A W i j) := by
  have HR : Hid (IRow 3 .i64 w r (m + 1) fr) := hr
  have HP : Hid (IRow 3 .i64 w p (m + 1) fp) := hp
  have HQ : Hid (IRow 21 .i32 w q m W) := hq
  have HF : Hid (∀ j, j ≤ m → i ≤ j + 3 → j ≤ i + 2 → fp j = Ed.cap (Ed.row A W (i - 1) j)) := hfp
  clear hp hq hfp
  by_cases hlo : i ≤ 2
  · by_cases hhi : i + 2 < m
    · have hc1 := hr.cell (show i + 2 + 1 < m + 1 by omega)
      have hf1 := hr.frozen (i + 2 + 1)
      have HS : Hid (FillRel A W r m i w (.int .i64 3) (.int .i64 0) (w.setCell ⟨r, i + 2 + 1, none⟩ (.int .i64 3))) := fill_start hi2 (HR.out.set _ _) (fun h => by omega) (fun _ => upd_same _ _ _) (grown_set _ _ _ _) _ (by omega)
      clear hr
      go_enter Try.func26, Try.ntmps26
      go_wp2
      go_loopw [13, 14, 15] (fun l j _ wr => FillRel A W r m i w l j wr) (fun _ j _ _ => m + 1 - (intOf j).toNat)
      case atStart => exact HS.out
      case round =>
        obtain ⟨jj, f, L, g1, g2, rfl, rfl, gL, g3, g4, g5, g6⟩ := hrel
        have GL : Hid (L = Ed.least f (i - 2) (jj - (i - 2))) := gL
        have G3 : Hid (IRow 3 .i64 wr r (m + 1) f) := g3
        have G4 : Hid (∀ k, k ≤ m → i ≤ k + 3 → k < jj → f k = Ed.cap (Ed.row A W i k)) := g4
        have G5 : Hid (i + 3 ≤ m → f (i + 3) = 3) := g5
        have hpw := HP.out.grown g6 (by simpa using hrp)
        have hqw := HQ.out.grown g6 (by simpa using hrq)
        clear g3 g4 g5 gL
        by_cases hj : jj ≤ min m (i + 2)
        · by_cases hj0 : jj = 0
          · subst hj0
            have c0 := G3.out.cell (show 0 < m + 1 by omega)
            have f0 := G3.out.frozen 0
            go_wp2
            go_roundw
            case rel => exact fill_step g1 hj G3.out G4.out G5.out g6 GL.out _ _ _ (by rw [Ed.cap_zero]; omega) (min2_eq _ _) rfl
            case measure => simp [intOf]
          · obtain ⟨s, rfl⟩ : ∃ s, jj = s + 1 := ⟨jj - 1, by omega⟩
            have c1 := G3.out.cell (show s + 1 < m + 1 by omega)
            have f1 := G3.out.frozen (s + 1)
            obtain ⟨x0, c0, X0, b00, b01⟩ := capped G3.out (show s < m + 1 by omega) A W i (G4.out s (by omega) (by omega) (by omega))
            obtain ⟨x1, p0, X1, b10, b11⟩ := capped hpw (show s < m + 1 by omega) A W (i - 1) (HF.out s (by omega) (by omega) (by omega))
            obtain ⟨x2, p1, X2, b20, b21⟩ := capped hpw (show s + 1 < m + 1 by omega) A W (i - 1) (HF.out (s + 1) (by omega) (by omega) (by omega))
            have q0 := hqw.cell (show s < m by omega)
            have hmin := run_min4
            go_wp2
            all_goals go_region
            all_goals go_wp2
            · go_roundw
              case rel => exact FillRel.drew (fill_step g1 hj G3.out G4.out G5.out g6 GL.out _ _ _ (Eq.trans (b := min (min (min (x1 + 1) (x2 + 1)) (x0 + 1)) 3) (by omega) (cell_ne hi1 X0 X1 X2 (by assumption))) (min2_eq _ _) (by simp))
              case measure => simp [intOf]; omega
            · go_roundw
              case rel => exact FillRel.drew (fill_step g1 hj G3.out G4.out G5.out g6 GL.out _ _ _ (Eq.trans (b := min (min (min x1 (x2 + 1)) (x0 + 1)) 3) (by omega) (cell_eq hi1 X0 X1 X2 (by assumption))) (min2_eq _ _) (by simp))
              case measure => simp [intOf]; omega
        · obtain rfl : jj = min m (i + 2) + 1 := by omega
          obtain ⟨y1, y2⟩ := fill_end hi2 G3.out G4.out G5.out g6
          have Y1 : Hid (L = Ed.least (Ed.row A W i) 0 (m + 1)) := GL.out.trans y1
          clear y1
          go_wp2
          go_ret
          exact ⟨ret_int Y1.out, y2⟩
    · have HS : Hid (FillRel A W r m i w (.int .i64 3) (.int .i64 0) w) := fill_start hi2 HR.out (fun h => by omega) (fun _ => by omega) (World.grownBy.refl _ _) _ (by omega)
      clear hr
      go_enter Try.func26, Try.ntmps26
      go_wp2
      go_loopw [13, 14, 15] (fun l j _ wr => FillRel A W r m i w l j wr) (fun _ j _ _ => m + 1 - (intOf j).toNat)
      case atStart => exact HS.out
      case round =>
        obtain ⟨jj, f, L, g1, g2, rfl, rfl, gL, g3, g4, g5, g6⟩ := hrel
        have GL : Hid (L = Ed.least f (i - 2) (jj - (i - 2))) := gL
        have G3 : Hid (IRow 3 .i64 wr r (m + 1) f) := g3
        have G4 : Hid (∀ k, k ≤ m → i ≤ k + 3 → k < jj → f k = Ed.cap (Ed.row A W i k)) := g4
        have G5 : Hid (i + 3 ≤ m → f (i + 3) = 3) := g5
        have hpw := HP.out.grown g6 (by simpa using hrp)
        have hqw := HQ.out.grown g6 (by simpa using hrq)
        clear g3 g4 g5 gL
        by_cases hj : jj ≤ min m (i + 2)
        · by_cases hj0 : jj = 0
          · subst hj0
            have c0 := G3.out.cell (show 0 < m + 1 by omega)
            have f0 := G3.out.frozen 0
            go_wp2
            go_roundw
            case rel => exact fill_step g1 hj G3.out G4.out G5.out g6 GL.out _ _ _ (by rw [Ed.cap_zero]; omega) (min2_eq _ _) rfl
            case measure => simp [intOf]
          · obtain ⟨s, rfl⟩ : ∃ s, jj = s + 1 := ⟨jj - 1, by omega⟩
            have c1 := G3.out.cell (show s + 1 < m + 1 by omega)
            have f1 := G3.out.frozen (s + 1)
            obtain ⟨x0, c0, X0, b00, b01⟩ := capped G3.out (show s < m + 1 by omega) A W i (G4.out s (by omega) (by omega) (by omega))
            obtain ⟨x1, p0, X1, b10, b11⟩ := capped hpw (show s < m + 1 by omega) A W (i - 1) (HF.out s (by omega) (by omega) (by omega))
            obtain ⟨x2, p1, X2, b20, b21⟩ := capped hpw (show s + 1 < m + 1 by omega) A W (i - 1) (HF.out (s + 1) (by omega) (by omega) (by omega))
            have q0 := hqw.cell (show s < m by omega)
            have hmin := run_min4
            go_wp2
            all_goals go_region
            all_goals go_wp2
            · go_roundw
              case rel => exact FillRel.drew (fill_step g1 hj G3.out G4.out G5.out g6 GL.out _ _ _ (Eq.trans (b := min (min (min (x1 + 1) (x2 + 1)) (x0 + 1)) 3) (by omega) (cell_ne hi1 X0 X1 X2 (by assumption))) (min2_eq _ _) (by simp))
              case measure => simp [intOf]; omega
            · go_roundw
              case rel => exact FillRel.drew (fill_step g1 hj G3.out G4.out G5.out g6 GL.out _ _ _ (Eq.trans (b := min (min (min x1 (x2 + 1)) (x0 + 1)) 3) (by omega) (cell_eq hi1 X0 X1 X2 (by assumption))) (min2_eq _ _) (by simp))
              case measure => simp [intOf]; omega
        · obtain rfl : jj = min m (i + 2) + 1 := by omega
          obtain ⟨y1, y2⟩ := fill_end hi2 G3.out G4.out G5.out g6
          have Y1 : Hid (L = Ed.least (Ed.row A W i) 0 (m + 1)) := GL.out.trans y1
          clear y1
          go_wp2
          go_ret
          exact ⟨ret_int Y1.out, y2⟩
  · have hc0 := hr.cell (show i - 2 - 1 < m + 1 by omega)
    have hf0 := hr.frozen (i - 2 - 1)
    by_cases hhi : i + 2 < m
    · have hc1 := hr.cell (show i + 2 + 1 < m + 1 by omega)
      have hf1 := hr.frozen (i + 2 + 1)
      have HS : Hid (FillRel A W r m i w (.int .i64 3) (.int .i64 ((i : Int) - 2)) ((w.setCell ⟨r, i - 2 - 1, none⟩ (.int .i64 3)).setCell ⟨r, i + 2 + 1, none⟩ (.int .i64 3))) :=
        fill_start hi2 ((HR.out.set _ _).set _ _) (fun h => by rw [upd_other _ _ (by omega)]; exact upd_same _ _ _) (fun _ => upd_same _ _ _) (grown_trans (grown_set _ _ _ _) (grown_set _ _ _ _)) _ (by omega)
      clear hr
      go_enter Try.func26, Try.ntmps26
      go_wp2
      go_loopw [13, 14, 15] (fun l j _ wr => FillRel A W r m i w l j wr) (fun _ j _ _ => m + 1 - (intOf j).toNat)
      case atStart => exact HS.out
      case round =>
        obtain ⟨jj, f, L, g1, g2, rfl, rfl, gL, g3, g4, g5, g6⟩ := hrel
        have GL : Hid (L = Ed.least f (i - 2) (jj - (i - 2))) := gL
        have G3 : Hid (IRow 3 .i64 wr r (m + 1) f) := g3
        have G4 : Hid (∀ k, k ≤ m → i ≤ k + 3 → k < jj → f k = Ed.cap (Ed.row A W i k)) := g4
        have G5 : Hid (i + 3 ≤ m → f (i + 3) = 3) := g5
        have hpw := HP.out.grown g6 (by simpa using hrp)
        have hqw := HQ.out.grown g6 (by simpa using hrq)
        clear g3 g4 g5 gL
        by_cases hj : jj ≤ min m (i + 2)
        · by_cases hj0 : jj = 0
          · omega
          · obtain ⟨s, rfl⟩ : ∃ s, jj = s + 1 := ⟨jj - 1, by omega⟩
            have c1 := G3.out.cell (show s + 1 < m + 1 by omega)
            have f1 := G3.out.frozen (s + 1)
            obtain ⟨x0, c0, X0, b00, b01⟩ := capped G3.out (show s < m + 1 by omega) A W i (G4.out s (by omega) (by omega) (by omega))
            obtain ⟨x1, p0, X1, b10, b11⟩ := capped hpw (show s < m + 1 by omega) A W (i - 1) (HF.out s (by omega) (by omega) (by omega))
            obtain ⟨x2, p1, X2, b20, b21⟩ := capped hpw (show s + 1 < m + 1 by omega) A W (i - 1) (HF.out (s + 1) (by omega) (by omega) (by omega))
            have q0 := hqw.cell (show s < m by omega)
            have hmin := run_min4
            go_wp2
            all_goals go_region
            all_goals go_wp2
            · go_roundw
              case rel => exact FillRel.drew (fill_step g1 hj G3.out G4.out G5.out g6 GL.out _ _ _ (Eq.trans (b := min (min (min (x1 + 1) (x2 + 1)) (x0 + 1)) 3) (by omega) (cell_ne hi1 X0 X1 X2 (by assumption))) (min2_eq _ _) (by simp))
              case measure => simp [intOf]; omega
            · go_roundw
              case rel => exact FillRel.drew (fill_step g1 hj G3.out G4.out G5.out g6 GL.out _ _ _ (Eq.trans (b := min (min (min x1 (x2 + 1)) (x0 + 1)) 3) (by omega) (cell_eq hi1 X0 X1 X2 (by assumption))) (min2_eq _ _) (by simp))
              case measure => simp [intOf]; omega
        · obtain rfl : jj = min m (i + 2) + 1 := by omega
          obtain ⟨y1, y2⟩ := fill_end hi2 G3.out G4.out G5.out g6
          have Y1 : Hid (L = Ed.least (Ed.row A W i) 0 (m + 1)) := GL.out.trans y1
          clear y1
          go_wp2
          go_ret
          exact ⟨ret_int Y1.out, y2⟩
    · have HS : Hid (FillRel A W r m i w (.int .i64 3) (.int .i64 ((i : Int) - 2)) (w.setCell ⟨r, i - 2 - 1, none⟩ (.int .i64 3))) :=
        fill_start hi2 (HR.out.set _ _) (fun h => upd_same _ _ _) (fun _ => by omega) (grown_set _ _ _ _) _ (by omega)
      clear hr
      go_enter Try.func26, Try.ntmps26
      go_wp2
      go_loopw [13, 14, 15] (fun l j _ wr => FillRel A W r m i w l j wr) (fun _ j _ _ => m + 1 - (intOf j).toNat)
      case atStart => exact HS.out
      case round =>
        obtain ⟨jj, f, L, g1, g2, rfl, rfl, gL, g3, g4, g5, g6⟩ := hrel
        have GL : Hid (L = Ed.least f (i - 2) (jj - (i - 2))) := gL
        have G3 : Hid (IRow 3 .i64 wr r (m + 1) f) := g3
        have G4 : Hid (∀ k, k ≤ m → i ≤ k + 3 → k < jj → f k = Ed.cap (Ed.row A W i k)) := g4
        have G5 : Hid (i + 3 ≤ m → f (i + 3) = 3) := g5
        have hpw := HP.out.grown g6 (by simpa using hrp)
        have hqw := HQ.out.grown g6 (by simpa using hrq)
        clear g3 g4 g5 gL
        by_cases hj : jj ≤ min m (i + 2)
        · by_cases hj0 : jj = 0
          · omega
          · obtain ⟨s, rfl⟩ : ∃ s, jj = s + 1 := ⟨jj - 1, by omega⟩
            have c1 := G3.out.cell (show s + 1 < m + 1 by omega)
            have f1 := G3.out.frozen (s + 1)
            obtain ⟨x0, c0, X0, b00, b01⟩ := capped G3.out (show s < m + 1 by omega) A W i (G4.out s (by omega) (by omega) (by omega))
            obtain ⟨x1, p0, X1, b10, b11⟩ := capped hpw (show s < m + 1 by omega) A W (i - 1) (HF.out s (by omega) (by omega) (by omega))
            obtain ⟨x2, p1, X2, b20, b21⟩ := capped hpw (show s + 1 < m + 1 by omega) A W (i - 1) (HF.out (s + 1) (by omega) (by omega) (by omega))
            have q0 := hqw.cell (show s < m by omega)
            have hmin := run_min4
            go_wp2
            all_goals go_region
            all_goals go_wp2
            · go_roundw
              case rel => exact FillRel.drew (fill_step g1 hj G3.out G4.out G5.out g6 GL.out _ _ _ (Eq.trans (b := min (min (min (x1 + 1) (x2 + 1)) (x0 + 1)) 3) (by omega) (cell_ne hi1 X0 X1 X2 (by assumption))) (min2_eq _ _) (by simp))
              case measure => simp [intOf]; omega
            · go_roundw
              case rel => exact FillRel.drew (fill_step g1 hj G3.out G4.out G5.out g6 GL.out _ _ _ (Eq.trans (b := min (min (min x1 (x2 + 1)) (x0 + 1)) 3) (by omega) (cell_eq hi1 X0 X1 X2 (by assumption))) (min2_eq _ _) (by simp))
              case measure => simp [intOf]; omega
        · obtain rfl : jj = min m (i + 2) + 1 := by omega
          obtain ⟨y1, y2⟩ := fill_end hi2 G3.out G4.out G5.out g6
          have Y1 : Hid (L = Ed.least (Ed.row A W i) 0 (m + 1)) := GL.out.trans y1
          clear y1
          go_wp2
          go_ret
          exact ⟨ret_int Y1.out, y2⟩
end Go.Proofs.Qxb6601309a
