import Derived.Test.Qxb6601309aFill
namespace Go.Proofs.Qxb6601309a
open Go.RowKit

set_option maxHeartbeats 1000000 in
/-- The same where the written name is nil. -/
theorem fill_nil (A W : Nat → Int) (r p i : Nat) (fr : Nat → Int) (w : World) (hi1 : 1 ≤ i) (hi2 : i ≤ 0 + 3)
    (hr : IRow 3 .i64 w r (0 + 1) fr) :
    Calls Try.prog 26 #[.slice (some ⟨r, 0, none⟩) (0 + 1) (0 + 1), .slice (some ⟨p, 0, none⟩) (0 + 1) (0 + 1), .int .i32 (A (i - 1)), .slice none 0 0, .int .i64 (i : Int)] w
      fun e w' => e = .returned (.int .i64 (Ed.least (Ed.row A W i) 0 (0 + 1))) ∧ w.grownBy w' (some r) ∧
        ∃ fr', IRow 3 .i64 w' r (0 + 1) fr' ∧ ∀ j, j ≤ 0 → i ≤ j + 3 → j ≤ i + 3 → fr' j = Ed.cap (Ed.row A W i j) := by
  have HR : Hid (IRow 3 .i64 w r (0 + 1) fr) := hr
  by_cases hlo : i ≤ 2
  · have HS : Hid (FillRel A W r 0 i w (.int .i64 3) (.int .i64 0) w) := fill_start hi2 HR.out (fun h => by omega) (fun _ => by omega) (World.grownBy.refl _ _) _ (by omega)
    clear hr
    go_enter Try.func26, Try.ntmps26
    go_wp2
    go_loopw [13, 14, 15] (fun l j _ wr => FillRel A W r 0 i w l j wr) (fun _ j _ _ => 0 + 1 - (intOf j).toNat)
    case atStart => exact HS.out
    case round =>
      obtain ⟨jj, f, L, g1, g2, rfl, rfl, gL, g3, g4, g5, g6⟩ := hrel
      have GL : Hid (L = Ed.least f (i - 2) (jj - (i - 2))) := gL
      have G3 : Hid (IRow 3 .i64 wr r (0 + 1) f) := g3
      have G4 : Hid (∀ k, k ≤ 0 → i ≤ k + 3 → k < jj → f k = Ed.cap (Ed.row A W i k)) := g4
      have G5 : Hid (i + 3 ≤ 0 → f (i + 3) = 3) := g5
      clear g3 g4 g5 gL
      by_cases hj : jj ≤ min 0 (i + 2)
      · have hj0 : jj = 0 := by omega
        subst hj0
        have c0 := G3.out.cell (show 0 < 0 + 1 by omega)
        have f0 := G3.out.frozen 0
        go_wp2
        go_roundw
        case rel => exact fill_step g1 hj G3.out G4.out G5.out g6 GL.out _ _ _ (by rw [Ed.cap_zero]; omega) (min2_eq _ _) rfl
        case measure => simp [intOf]
      · obtain rfl : jj = min 0 (i + 2) + 1 := by omega
        obtain ⟨y1, y2⟩ := fill_end hi2 G3.out G4.out G5.out g6
        have Y1 : Hid (L = Ed.least (Ed.row A W i) 0 (0 + 1)) := GL.out.trans y1
        clear y1
        go_wp2
        go_ret
        exact ⟨ret_int Y1.out, y2⟩
  · obtain rfl : i = 3 := by omega
    have hc0 := hr.cell (show 0 < 0 + 1 by omega)
    have hf0 := hr.frozen 0
    have HS : Hid (FillRel A W r 0 3 w (.int .i64 3) (.int .i64 1) (w.setCell ⟨r, 0, none⟩ (.int .i64 3))) :=
      fill_start hi2 (HR.out.set _ _) (fun h => upd_same _ _ _) (fun _ => by omega) (grown_set _ _ _ _) _ (by omega)
    clear hr
    obtain ⟨jj, f, L, g1, g2, g7, g8, gL, g3, g4, g5, g6⟩ := HS.out
    have hjj : jj = min 0 (3 + 2) + 1 := by omega
    subst hjj
    obtain ⟨y1, y2⟩ := fill_end hi2 g3 g4 g5 g6
    have hL : L = 3 := by simpa using g8.symm
    subst hL
    have Y1 : Hid (3 = Ed.least (Ed.row A W 3) 0 (0 + 1)) := gL.trans y1
    have Y2 := y2
    clear y1 y2 g8 gL g7 g3 g4 g5 g6
    have H2 : Hid (w.grownBy (w.setCell ⟨r, 0, none⟩ (.int .i64 3)) (some r) ∧ ∃ fr', IRow 3 .i64 (w.setCell ⟨r, 0, none⟩ (.int .i64 3)) r (0 + 1) fr' ∧ ∀ j, j ≤ 0 → 3 ≤ j + 3 → j ≤ 3 + 3 → fr' j = Ed.cap (Ed.row A W 3 j)) := Y2
    clear Y2
    go_enter Try.func26, Try.ntmps26
    go_wp2
    go_loopw [13, 14, 15] (fun l j _ wr => l = .int .i64 3 ∧ j = .int .i64 1 ∧ wr = w.setCell ⟨r, 0, none⟩ (.int .i64 3)) (fun _ j _ _ => 0)
    case atStart => exact ⟨rfl, rfl, rfl⟩
    case round =>
      obtain ⟨rfl, rfl, rfl⟩ := hrel
      go_wp2
      go_ret
      exact ⟨ret_int Y1.out, H2.out⟩
end Go.Proofs.Qxb6601309a
