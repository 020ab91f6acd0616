import Derived.Test.Qxb6601309aClone
import Derived.Deep.QuietTactic
import Derived.BigQuiet
namespace Go.Proofs.Qxb6601309a
open Go.RowKit
set_option linter.unusedVariables false

/-- The written name as the call holds it: nil; or one block. -/
def WSl (b0 : Nat) (w : World) (a : Option Addr) (n : Nat) (f : Nat → Int) : Prop :=
  (a = none ∧ n = 0) ∨ ∃ q, a = some ⟨q, 0, none⟩ ∧ q < b0 ∧ IRow 21 .i32 w q n f

theorem WSl.below {b0 : Nat} {w w' : World} {a : Option Addr} {n : Nat} {f : Nat → Int} (h : WSl b0 w a n f) (hb : Below b0 w w') : WSl b0 w' a n f := by
  rcases h with h | ⟨q, h1, h2, h3⟩
  · exact .inl h
  · exact .inr ⟨q, h1, h2, h3.of_block (hb.block q h2)⟩

theorem fill_any (A W : Nat → Int) (aw : Option Addr) (b0 r p m i : Nat) (fr fp : Nat → Int) (w : World) (hm : m ≤ 4096) (hi1 : 1 ≤ i) (hi2 : i ≤ m + 3)
    (hr : IRow 3 .i64 w r (m + 1) fr) (hp : IRow 3 .i64 w p (m + 1) fp) (hq : WSl b0 w aw m W) (hrp : p ≠ r) (hrq : b0 ≤ r)
    (hfp : ∀ j, j ≤ m → i ≤ j + 3 → j ≤ i + 2 → fp j = Ed.cap (Ed.row A W (i - 1) j)) (c z : Int) (hc : c = A (i - 1)) (hz : z = (i : Int)) :
    Calls Try.prog 26 #[.slice (some ⟨r, 0, none⟩) (m + 1) (m + 1), .slice (some ⟨p, 0, none⟩) (m + 1) (m + 1), .int .i32 c, .slice aw m m, .int .i64 z] w
      fun e w' => e = .returned (.int .i64 (Ed.least (Ed.row A W i) 0 (m + 1))) ∧ w.grownBy w' (some r) ∧
        ∃ fr', IRow 3 .i64 w' r (m + 1) fr' ∧ ∀ j, j ≤ m → i ≤ j + 3 → j ≤ i + 3 → fr' j = Ed.cap (Ed.row A W i j) := by
  subst hc hz
  rcases hq with ⟨rfl, rfl⟩ | ⟨q, rfl, hq1, hq2⟩
  · exact fill_nil A W r p i fr w hi1 hi2 hr
  · exact fill_q A W r p q m i fr fp w hm hi1 hi2 hr hp hq2 hrp (by omega) hfp

/-- THE OUTER LOOP's RELATION. -/
def OutRel (A W : Nat → Int) (B b0 la m : Nat) (w w2 : World) (prev row dp ndp i : Value) (wr : World) : Prop :=
  ∃ (ii P R D N : Nat) (fp fr fd fn : Nat → Int), 1 ≤ ii ∧ ii ≤ la + 1 ∧ ii ≤ m + 4 ∧ i = .int .i64 (ii : Int) ∧
    prev = .slice (some ⟨P, 0, none⟩) (m + 1) (m + 1) ∧ row = .slice (some ⟨R, 0, none⟩) (m + 1) (m + 1) ∧ dp = .slice (some ⟨D, 0, none⟩) (m + 1) (m + 1) ∧ ndp = .slice (some ⟨N, 0, none⟩) (m + 1) (m + 1) ∧
    (b0 ≤ P ∧ b0 ≤ R ∧ b0 ≤ D ∧ b0 ≤ N) ∧ (P ≠ R ∧ P ≠ D ∧ P ≠ N ∧ R ≠ D ∧ R ≠ N ∧ D ≠ N) ∧
    IRow 3 .i64 wr P (m + 1) fp ∧ IRow 3 .i64 wr R (m + 1) fr ∧ IRow 3 .i64 wr D (m + 1) fd ∧ IRow 3 .i64 wr N (m + 1) fn ∧
    (∀ j, j ≤ m → ii ≤ j + 3 → j ≤ ii + 2 → fp j = Ed.cap (Ed.row A W (ii - 1) j)) ∧ (∀ j, j ≤ m → fd j = Ed.row A W (ii - 1) j) ∧ Below b0 w2 wr ∧ Below B w wr

theorem IsRow.below {B : Nat} {k : IntKind} {w w' : World} {a : Option Addr} {len cap : Nat} {zs : List Int} (h : IsRow k w a len cap zs) (hb : Below B w w') (hB : w.heap.size ≤ B) : IsRow k w' a len cap zs := by
  rcases h with h | ⟨x, h1, h2, h3, h4, h5, h6⟩
  · exact .inl h
  · exact .inr ⟨x, h1, h2, h3, h4, fun i hi => by rw [hb.cell (Nat.lt_of_lt_of_le (World.block_lt_of_cell? w _ (h5 i hi)) hB)]; exact h5 i hi, h6⟩

theorem OwnSl.below {B b0 : Nat} {w w' : World} {a : Option Addr} {n : Nat} {f : Nat → Int} (h : OwnSl B w a n f) (hb : Below b0 w w') (hB : w.heap.size ≤ b0) : WSl b0 w' a n f := by
  rcases h with h | ⟨q, h1, h2, h3⟩
  · exact .inl h
  · exact .inr ⟨q, h1, Nat.lt_of_lt_of_le h3.lt hB, h3.of_block (hb.block q (Nat.lt_of_lt_of_le h3.lt hB))⟩

/-- The first loop's relation. -/
def InitRel (b0 m P R D N : Nat) (w2 : World) (j : Value) (wr : World) : Prop :=
  ∃ (jj : Nat) (fp fr fd fn : Nat → Int), jj ≤ m + 1 ∧ j = .int .i64 (jj : Int) ∧
    IRow 3 .i64 wr P (m + 1) fp ∧ IRow 3 .i64 wr R (m + 1) fr ∧ IRow 3 .i64 wr D (m + 1) fd ∧ IRow 3 .i64 wr N (m + 1) fn ∧
    (∀ k, k < jj → fp k = min (k : Int) 3) ∧ (∀ k, k < jj → fd k = (k : Int)) ∧ Below b0 w2 wr

theorem init_step {b0 m P R D N : Nat} {w2 wr : World} {jj : Nat} {fp fr fd fn : Nat → Int} (hj : jj ≤ m) (i1 : IRow 3 .i64 wr P (m + 1) fp) (i2 : IRow 3 .i64 wr R (m + 1) fr) (i3 : IRow 3 .i64 wr D (m + 1) fd) (i4 : IRow 3 .i64 wr N (m + 1) fn)
    (e1 : ∀ k, k < jj → fp k = min (k : Int) 3) (e2 : ∀ k, k < jj → fd k = (k : Int)) (hb : Below b0 w2 wr) (hP : b0 ≤ P) (hD : b0 ≤ D) (n1 : P ≠ R) (n2 : P ≠ D) (n3 : P ≠ N) (n4 : R ≠ D) (n6 : D ≠ N) (x z : Int) (hx : x = min (jj : Int) 3) (hz : z = (jj : Int) + 1) :
    InitRel b0 m P R D N w2 (.int .i64 z) ((wr.setCell ⟨P, jj, none⟩ (.int .i64 x)).setCell ⟨D, jj, none⟩ (.int .i64 (jj : Int))) := by
  refine ⟨jj + 1, upd fp jj x, fr, upd fd jj jj, fn, by omega, by rw [hz]; simp, (i1.set _ _).set_other n2 _, (i2.set_other (Ne.symm n1) _).set_other n4 _, (i3.set_other (Ne.symm n2) _).set _ _, (i4.set_other (Ne.symm n3) _).set_other (Ne.symm n6) _, ?_, ?_, (hb.setCell hP _).setCell hD _⟩
  · intro k hk
    by_cases e : k = jj
    · subst e; rw [upd_same]; exact hx
    · rw [upd_other _ _ e]; exact e1 k (by omega)
  · intro k hk
    by_cases e : k = jj
    · subst e; rw [upd_same]
    · rw [upd_other _ _ e]; exact e2 k (by omega)

/-- The loop that works out the true row. -/
def TrueRel (A W : Nat → Int) (m N i : Nat) (wb : World) (j : Value) (wr : World) : Prop :=
  ∃ (jj : Nat) (fn : Nat → Int), 1 ≤ jj ∧ jj ≤ m + 1 ∧ j = .int .i64 (jj : Int) ∧ IRow 3 .i64 wr N (m + 1) fn ∧ (∀ k, k < jj → fn k = Ed.row A W i k) ∧ wb.grownBy wr (some N)

theorem true_step {A W : Nat → Int} {m N i : Nat} {wb wr : World} {jj : Nat} {fn : Nat → Int} (h1 : 1 ≤ jj) (hj : jj ≤ m) (i1 : IRow 3 .i64 wr N (m + 1) fn) (e1 : ∀ k, k < jj → fn k = Ed.row A W i k) (hg : wb.grownBy wr (some N))
    (x z : Int) (hx : x = Ed.row A W i jj) (hz : z = (jj : Int) + 1) : TrueRel A W m N i wb (.int .i64 z) (wr.setCell ⟨N, jj, none⟩ (.int .i64 x)) := by
  refine ⟨jj + 1, upd fn jj x, by omega, by omega, by rw [hz]; simp, i1.set _ _, ?_, grown_trans hg (grown_set _ _ _ _)⟩
  intro k hk
  by_cases e : k = jj
  · subst e; rw [upd_same]; exact hx
  · rw [upd_other _ _ e]; exact e1 k (by omega)
theorem TrueRel.drew {A W : Nat → Int} {m N i : Nat} {wb wr : World} {j : Value} (h : TrueRel A W m N i wb j wr) : TrueRel A W m N i wb j wr.drew := by
  obtain ⟨jj, fn, h1, h2, h3, h4, h5, h6⟩ := h
  exact ⟨jj, fn, h1, h2, h3, h4.drew, h5, grown_drew h6⟩

theorem true_start {A W : Nat → Int} {m N i : Nat} {wf : World} {fn : Nat → Int} (j4 : IRow 3 .i64 wf N (m + 1) fn) : TrueRel A W m N i wf (.int .i64 1) (wf.setCell ⟨N, 0, none⟩ (.int .i64 (i : Int))) := by
  refine ⟨1, upd fn 0 i, by omega, by omega, rfl, j4.set _ _, fun k hk => ?_, grown_set _ _ _ _⟩
  have h : k = 0 := by omega
  subst h
  rw [upd_same, Ed.row_at_zero]

/-- A cell of a true row, under a name of its own. -/
theorem trued {w : World} {b n : Nat} {f : Nat → Int} (h : IRow 3 .i64 w b n f) {s : Nat} (hs : s < n) (a v : Nat → Int) (i : Nat) (e : f s = Ed.row a v i s) :
    ∃ x : Int, w.cell? ⟨b, s, none⟩ = some (.int .i64 x) ∧ Hid (x = Ed.row a v i s) ∧ 0 ≤ x ∧ x ≤ i + s :=
  ⟨f s, h.cell hs, e, by have := Ed.row_bounds a v i s; rw [e]; omega, by have := Ed.row_bounds a v i s; rw [e]; omega⟩

theorem tcell_ne {A W : Nat → Int} {i s : Nat} (hi : 1 ≤ i) {x0 x1 x2 : Int} (X0 : Hid (x0 = Ed.row A W i s)) (X1 : Hid (x1 = Ed.row A W (i - 1) s)) (X2 : Hid (x2 = Ed.row A W (i - 1) (s + 1)))
    (h : (W s != A (i - 1)) = true) : min (min (x1 + 1) (x2 + 1)) (x0 + 1) = Ed.row A W i (s + 1) := by
  obtain ⟨i', rfl⟩ : ∃ i', i = i' + 1 := ⟨i - 1, by omega⟩
  simp only [Nat.add_sub_cancel] at X1 X2 h
  rw [X0.out, X1.out, X2.out, Ed.row_succ_succ, if_neg (by simpa using h)]
theorem tcell_eq {A W : Nat → Int} {i s : Nat} (hi : 1 ≤ i) {x0 x1 x2 : Int} (X0 : Hid (x0 = Ed.row A W i s)) (X1 : Hid (x1 = Ed.row A W (i - 1) s)) (X2 : Hid (x2 = Ed.row A W (i - 1) (s + 1)))
    (h : (W s != A (i - 1)) = false) : min (min x1 (x2 + 1)) (x0 + 1) = Ed.row A W i (s + 1) := by
  obtain ⟨i', rfl⟩ : ∃ i', i = i' + 1 := ⟨i - 1, by omega⟩
  simp only [Nat.add_sub_cancel] at X1 X2 h
  rw [X0.out, X1.out, X2.out, Ed.row_succ_succ, if_pos (by simpa using h), Int.add_zero]

theorem run_min2 (w : World) (ts : Array TypeId) (t : TypeId) (a b : Int) : (Builtin.min_ ts t #[.int .i64 a, .int .i64 b]).run Try.prog w = .ok (.int .i64 (min a b)) w := by
  simp [Builtin.min_, Builtin.min2, min2_eq]
theorem run_max2 (w : World) (ts : Array TypeId) (t : TypeId) (a b : Int) : (Builtin.max_ ts t #[.int .i64 a, .int .i64 b]).run Try.prog w = .ok (.int .i64 (max a b)) w := by
  simp [Builtin.max_, Builtin.max2, max2_eq]

theorem out_step {A W : Nat → Int} {B b0 la m : Nat} {w w2 wb w' : World} {ii P R D N : Nat} {fp fr fd fn : Nat → Int}
    (hM : IRow 3 .i64 wb P (m + 1) fp ∧ IRow 3 .i64 wb R (m + 1) fr ∧ IRow 3 .i64 wb D (m + 1) fd ∧ IRow 3 .i64 wb N (m + 1) fn ∧ Below b0 w2 wb ∧ Below B w wb)
    (hN : (b0 ≤ R ∧ b0 ≤ P ∧ b0 ≤ N ∧ b0 ≤ D) ∧ (R ≠ P ∧ R ≠ N ∧ R ≠ D ∧ P ≠ N ∧ P ≠ D ∧ N ≠ D))
    (e4 : ∀ j, j ≤ m → ii + 1 ≤ j + 3 → j ≤ ii + 1 + 2 → fr j = Ed.cap (Ed.row A W (ii + 1 - 1) j)) (e5 : ∀ j, j ≤ m → fn j = Ed.row A W (ii + 1 - 1) j) (hg : wb.grownBy w' none)
    (h1 : ii ≤ la) (h2 : ii ≤ m + 3) (hB : B ≤ b0) (i : Value) (hi : i = .int .i64 ((ii + 1 : Nat) : Int)) :
    OutRel A W B b0 la m w w2 (.slice (some ⟨R, 0, none⟩) (m + 1) (m + 1)) (.slice (some ⟨P, 0, none⟩) (m + 1) (m + 1)) (.slice (some ⟨N, 0, none⟩) (m + 1) (m + 1)) (.slice (some ⟨D, 0, none⟩) (m + 1) (m + 1)) i w' := by
  obtain ⟨a1, a2, a3, a4, a5, a6⟩ := hM
  have := a1.lt
  have hP := hN.1.2.1
  exact ⟨ii + 1, R, P, N, D, fr, fp, fn, fd, by omega, by omega, by omega, hi, rfl, rfl, rfl, rfl, hN.1, hN.2, a2.grown hg (by simp), a1.grown hg (by simp), a4.grown hg (by simp), a3.grown hg (by simp), e4, e5,
    a5.grown hg (by omega) (by simp), a6.grown hg (by omega) (by simp)⟩

set_option maxRecDepth 100000 in
set_option maxHeartbeats 4000000 in
theorem main_walk (a0 : Option Addr) (len0 cap0 : Nat) (z0 : List Int) (a1 : Option Addr) (len1 cap1 : Nat) (z1 : List Int) (w : World) (w0 : IsRow .i32 w a0 len0 cap0 z0) (w1 : IsRow .i32 w a1 len1 cap1 z1)
    (h0 : len0 ≤ 4096) (h1 : len1 ≤ 4096) :
    Calls Try.prog 5 #[.slice a0 len0 cap0, .slice a1 len1 cap1] w fun e w' => e = .returned (.bool true) ∧ Below w.heap.size w w' := by
  obtain ⟨i0, hi, hz0, hz1, hz2⟩ := info_parts Try.info3
  have W0 : Hid (IsRow .i32 w a0 len0 cap0 z0) := w0
  have W1 : Hid (IsRow .i32 w a1 len1 cap1 z1) := w1
  clear w0 w1
  go_enter Try.func5, Try.ntmps5
  have d0 : decide ((4096 : Int) < (len0 : Int)) = false := decide_eq_false (by omega)
  have d1 : decide ((4096 : Int) < (len1 : Int)) = false := decide_eq_false (by omega)
  go_wp2_with (first | (go_at_call 19; go_in))
  refine (clone_any a0 len0 cap0 z0 w W0.out (by omega)).mono ?_
  rintro e wa ⟨⟨ao, rfl, hao⟩, Ba⟩
  have HAO : Hid (OwnSl w.heap.size wa ao len0 (fun j => z0.getD j 0)) := hao
  clear hao
  go_wp2_with fail
  refine (clone_any a1 len1 cap1 z1 wa (W1.out.below Ba (Nat.le_refl _)) (by omega)).mono ?_
  rintro e w2 ⟨⟨aw, rfl, haw⟩, Bw⟩
  have HA : Hid (WSl w2.heap.size w2 ao len0 (fun j => z0.getD j 0)) := HAO.out.below (Bw.mono (Nat.le_refl _)) (Nat.le_refl _) |> fun h => by
    rcases h with h | ⟨q, g1, g2, g3⟩
    · exact .inl h
    · exact .inr ⟨q, g1, Nat.lt_of_lt_of_le g2 Bw.size, g3⟩
  have HW : Hid (WSl w2.heap.size w2 aw len1 (fun j => z1.getD j 0)) := haw.below (Below.refl _ _) (Nat.le_refl _)
  have HB : Hid (Below w.heap.size w w2) := Ba.trans (Bw.mono Ba.size)
  clear haw HAO Ba Bw W0 W1
  go_wp2_with (first
    | (at_make; refine wpList_make_full _ rfl (.tmp 37) (.tmp 37) 24 rfl w2.heap.size 3 i0 (.int .i64 0) 1 Try.underlying24 hi hz0 hz1 _ _ _ _ (len1 + 1) rfl rfl (by omega) (by omega) (by rw [hz2]; omega) (by unfold maxLen; omega) (Nat.le_refl _) ?_; intro w3 hown3 hgrow3)
    | (at_make; refine wpList_make_full _ rfl (.tmp 40) (.tmp 40) 24 rfl w2.heap.size 3 i0 (.int .i64 0) 1 Try.underlying24 hi hz0 hz1 _ _ _ _ (len1 + 1) rfl rfl (by omega) (by omega) (by rw [hz2]; omega) (by unfold maxLen; omega) (hgrow3.size) ?_; intro w4 hown4 hgrow4)
    | (at_make; refine wpList_make_full _ rfl (.tmp 43) (.tmp 43) 24 rfl w2.heap.size 3 i0 (.int .i64 0) 1 Try.underlying24 hi hz0 hz1 _ _ _ _ (len1 + 1) rfl rfl (by omega) (by omega) (by rw [hz2]; omega) (by unfold maxLen; omega) (Nat.le_trans hgrow3.size hgrow4.size) ?_; intro w5 hown5 hgrow5)
    | (at_make; refine wpList_make_full _ rfl (.tmp 46) (.tmp 46) 24 rfl w2.heap.size 3 i0 (.int .i64 0) 1 Try.underlying24 hi hz0 hz1 _ _ _ _ (len1 + 1) rfl rfl (by omega) (by omega) (by rw [hz2]; omega) (by unfold maxLen; omega) (Nat.le_trans (Nat.le_trans hgrow3.size hgrow4.size) hgrow5.size) ?_; intro w6 hown6 hgrow6))
  have r3 := IRow.made hown3 rfl
  have r4 := IRow.made hown4 rfl
  have r5 := IRow.made hown5 rfl
  have r6 := IRow.made hown6 rfl
  have l3 := r3.lt
  have l4 := r4.lt
  have l5 := r5.lt
  have l6 := r6.lt
  have s3 := ((r3.grown hgrow4 (by simp)).grown hgrow5 (by simp)).grown hgrow6 (by simp)
  have s4 := (r4.grown hgrow5 (by simp)).grown hgrow6 (by simp)
  have s5 := r5.grown hgrow6 (by simp)
  have bb : Below w2.heap.size w2 w6 := ((((Below.refl _ _).grown hgrow3 (Nat.le_refl _) (by simp)).grown hgrow4 (by omega) (by simp)).grown hgrow5 (by omega) (by simp)).grown hgrow6 (by omega) (by simp)
  have S : Hid (InitRel w2.heap.size len1 w2.heap.size w3.heap.size w4.heap.size w5.heap.size w2 (.int .i64 0) w6) := ⟨0, _, _, _, _, by omega, rfl, s3, s4, s5, r6, fun k hk => by omega, fun k hk => by omega, bb⟩
  clear hown3 hown4 hown5 hown6 hgrow3 hgrow4 hgrow5 hgrow6 r3 r4 r5 r6 s3 s4 s5 bb
  generalize hP : w2.heap.size = b0 at *
  generalize hR : w3.heap.size = R at *
  generalize hD : w4.heap.size = D at *
  generalize hN : w5.heap.size = N at *
  clear hR hD hN
  have HP0 : Hid (w2.heap.size = b0) := hP
  clear hP
  go_loopw [10] (fun j wr => InitRel b0 len1 b0 R D N w2 j wr) (fun j _ => len1 + 1 - (intOf j).toNat)
  case atStart => exact S.out
  case round =>
    obtain ⟨jj, fp, fr, fd, fn, g1, rfl, i1, i2, i3, i4, e1, e2, bel⟩ := hrel
    have E1 : Hid (∀ k, k < jj → fp k = min (k : Int) 3) := e1
    have E2 : Hid (∀ k, k < jj → fd k = (k : Int)) := e2
    clear e1 e2
    by_cases hj : jj ≤ len1
    · have c1 := i1.cell (show jj < len1 + 1 by omega)
      have f1 := i1.frozen jj
      have c2 := i3.cell (show jj < len1 + 1 by omega)
      have f2 := i3.frozen jj
      go_wp2
      go_roundw
      case rel => exact init_step hj i1 i2 i3 i4 E1.out E2.out bel (Nat.le_refl _) (by omega) (by omega) (by omega) (by omega) (by omega) (by omega) _ _ (min2_eq _ _) rfl
      case measure => simp [intOf]; omega
    · have hjj : jj = len1 + 1 := by omega
      have S2 : Hid (OutRel (fun j => z0.getD j 0) (fun j => z1.getD j 0) w.heap.size b0 len0 len1 w w2 (.slice (some ⟨b0, 0, none⟩) (len1 + 1) (len1 + 1)) (.slice (some ⟨R, 0, none⟩) (len1 + 1) (len1 + 1)) (.slice (some ⟨D, 0, none⟩) (len1 + 1) (len1 + 1)) (.slice (some ⟨N, 0, none⟩) (len1 + 1) (len1 + 1)) (.int .i64 1) wr) :=
        ⟨1, b0, R, D, N, fp, fr, fd, fn, by omega, by omega, by omega, rfl, rfl, rfl, rfl, rfl, ⟨by omega, by omega, by omega, by omega⟩, ⟨by omega, by omega, by omega, by omega, by omega, by omega⟩, i1, i2, i3, i4,
          fun j h1 h2 h3 => by rw [E1.out j (by omega)]; rfl, fun j h1 => by rw [E2.out j (by omega)]; rfl, bel, HB.out.trans (bel.mono (by have := HB.out.size; rw [HP0.out] at this; exact this))⟩
      have dd : decide ((jj : Int) ≤ (len1 : Int)) = false := decide_eq_false (by omega)
      clear i1 i2 i3 i4 E1 E2 bel g1 l3 l4 l5 l6 S hjj
      generalize hA : (fun j => z0.getD j 0) = A at *
      generalize hW : (fun j => z1.getD j 0) = W at *
      clear hA hW
      go_wp2
      clear dd hj
      go_loopw [6, 7, 8, 9, 11] (fun p r d n i wr => OutRel A W w.heap.size b0 len0 len1 w w2 p r d n i wr) (fun _ _ _ _ i _ => len0 + 1 - (intOf i).toNat)
      case atStart => exact S2.out
      case round =>
        obtain ⟨ii, P, R, D, N, fp, fr, fd, fn, g1, g2, g3, rfl, rfl, rfl, rfl, rfl, ⟨q1, q2, q3, q4⟩, ⟨n1, n2, n3, n4, n5, n6⟩, i1, i2, i3, i4, e1, e2, bel, beB⟩ := hrel
        have E1 : Hid (∀ j, j ≤ len1 → ii ≤ j + 3 → j ≤ ii + 2 → fp j = Ed.cap (Ed.row A W (ii - 1) j)) := e1
        have E2 : Hid (∀ j, j ≤ len1 → fd j = Ed.row A W (ii - 1) j) := e2
        clear e1 e2
        by_cases hl : ii ≤ len0 ∧ ii ≤ len1 + 3
        · obtain ⟨hl1, hl2⟩ := hl
          have ha := HA.out.below bel
          have hw := HW.out.below bel
          have HWr : Hid (WSl b0 wr aw len1 W) := hw
          rcases ha with ⟨_, h⟩ | ⟨qa, rfl, qa1, ra⟩
          · omega
          have ca := ra.cell (show ii - 1 < len0 by omega)
          clear hw S2
          go_wp2_with (go_at_call 21; go_in)
          refine (fill_any A W aw b0 R P len1 ii fr fp _ h1 g1 hl2 i2 i1 HWr.out n1 q2 E1.out _ _ rfl rfl).mono ?_
          rintro e wf ⟨rfl, hgf, fr', j2, ef⟩
          have EF : Hid (∀ j, j ≤ len1 → ii ≤ j + 3 → j ≤ ii + 3 → fr' j = Ed.cap (Ed.row A W ii j)) := ef
          have j1 := i1.grown hgf (by simpa using n1)
          have j3 := i3.grown hgf (by simpa using Ne.symm n4)
          have j4 := i4.grown hgf (by simpa using Ne.symm n5)
          have jbel : Below b0 w2 wf := bel.grown hgf (by have := i2.lt; omega) (by simp; omega)
          have jbeB : Below w.heap.size w wf := beB.grown hgf (by have := beB.size; omega) (by have := HB.out.size; rw [HP0.out] at this; simp; omega)
          clear ef ra ca HWr i1 i2 i3 i4 bel beB hgf
          have cN := j4.cell (show 0 < len1 + 1 by omega)
          have fN := j4.frozen 0
          obtain ⟨L, hL⟩ : ∃ L, L = Ed.least (Ed.row A W ii) 0 (len1 + 1) := ⟨_, rfl⟩
          rw [← hL]
          have HL : Hid (L = Ed.least (Ed.row A W ii) 0 (len1 + 1)) := hL
          clear hL
          go_wp2
          go_loopw [13, 14] (fun j _ w' => TrueRel A W len1 N ii wf j w') (fun j _ _ => len1 + 1 - (intOf j).toNat)
          case atStart => exact true_start j4
          case round =>
            obtain ⟨jj, fm, k1, k2, rfl, m1, e3, hg3⟩ := hrel
            have E3 : Hid (∀ k, k < jj → fm k = Ed.row A W ii k) := e3
            clear e3
            have m3 := j3.grown hg3 (by simpa using n6)
            have bel3 := jbel.grown hg3 (by have := j4.lt; omega) (by simp; omega)
            by_cases hj : jj ≤ len1
            · obtain ⟨s, rfl⟩ : ∃ s, jj = s + 1 := ⟨jj - 1, by omega⟩
              have ha := HA.out.below bel3
              have hw := HW.out.below bel3
              rcases ha with ⟨h, _⟩ | ⟨qa', hqa, _, ra⟩
              · cases h
              obtain ⟨rfl⟩ : qa = qa' := by simpa using hqa
              rcases hw with ⟨_, h⟩ | ⟨qw, rfl, _, rw'⟩
              · omega
              have ca := ra.cell (show ii - 1 < len0 by omega)
              have cw := rw'.cell (show s < len1 by omega)
              have c1 := m1.cell (show s + 1 < len1 + 1 by omega)
              have f1 := m1.frozen (s + 1)
              obtain ⟨x0, c0, X0, b00, b01⟩ := trued m1 (show s < len1 + 1 by omega) A W ii (E3.out s (by omega))
              obtain ⟨x1, p0, X1, b10, b11⟩ := trued m3 (show s < len1 + 1 by omega) A W (ii - 1) (E2.out s (by omega))
              obtain ⟨x2, p1, X2, b20, b21⟩ := trued m3 (show s + 1 < len1 + 1 by omega) A W (ii - 1) (E2.out (s + 1) (by omega))
              go_wp2
              go_region
              all_goals go_wp2
              all_goals go_region
              all_goals go_wp2
              all_goals
                go_roundw
                case rel => first | exact TrueRel.drew (TrueRel.drew (true_step k1 hj m1 E3.out hg3 _ _ (Eq.trans (b := min (min (x1 + 1) (x2 + 1)) (x0 + 1)) (by omega) (tcell_ne g1 X0 X1 X2 (by assumption))) (by simp))) | exact TrueRel.drew (TrueRel.drew (true_step k1 hj m1 E3.out hg3 _ _ (Eq.trans (b := min (min x1 (x2 + 1)) (x0 + 1)) (by omega) (tcell_eq g1 X0 X1 X2 (by assumption))) (by simp)))
                case measure => simp [intOf]; omega
            · obtain rfl : jj = len1 + 1 := by omega
              have m1' := j1.grown hg3 (by simpa using n3)
              have m2 := j2.grown hg3 (by simpa using n5)
              have beB3 : Below w.heap.size w wr := jbeB.grown hg3 (by have := jbeB.size; omega) (by have := HB.out.size; rw [HP0.out] at this; simp; omega)
              clear j1 j2 j3 j4 jbel jbeB cN fN
              go_wp2
              go_loop [15, 16] (fun v j => ∃ (jj : Nat), jj ≤ len1 + 1 ∧ j = .int .i64 (jj : Int) ∧ v = .int .i64 (Ed.least (Ed.row A W ii) 0 jj)) (fun _ j => len1 + 1 - (intOf j).toNat)
              case atStart => exact ⟨0, by omega, rfl, rfl⟩
              case round =>
                obtain ⟨jj, k3, rfl, rfl⟩ := hrel
                by_cases hj2 : jj ≤ len1
                · obtain ⟨x0, c0, X0, b00, b01⟩ := trued m1 (show jj < len1 + 1 by omega) A W ii (E3.out jj (by omega))
                  go_wp2
                  go_round
                  case rel => exact ⟨jj + 1, by omega, by go_num, by rw [min2_eq]; simp only [Ed.least, Nat.zero_add]; rw [X0.out]⟩
                  case measure => simp [intOf]; omega
                · obtain rfl : jj = len1 + 1 := by omega
                  rw [← HL.out]
                  have E4 : Hid (∀ j, j ≤ len1 → ii + 1 ≤ j + 3 → j ≤ ii + 1 + 2 → fr' j = Ed.cap (Ed.row A W (ii + 1 - 1) j)) := fun j a b c => EF.out j a (by omega) (by omega)
                  have E5 : Hid (∀ j, j ≤ len1 → fm j = Ed.row A W (ii + 1 - 1) j) := fun j a => E3.out j (by omega)
                  have HM : Hid (IRow 3 .i64 wr P (len1 + 1) fp ∧ IRow 3 .i64 wr R (len1 + 1) fr' ∧ IRow 3 .i64 wr D (len1 + 1) fd ∧ IRow 3 .i64 wr N (len1 + 1) fm ∧ Below b0 w2 wr ∧ Below w.heap.size w wr) := ⟨m1', m2, m3, m1, bel3, beB3⟩
                  have HN : Hid ((b0 ≤ R ∧ b0 ≤ P ∧ b0 ≤ N ∧ b0 ≤ D) ∧ (R ≠ P ∧ R ≠ N ∧ R ≠ D ∧ P ≠ N ∧ P ≠ D ∧ N ≠ D)) := ⟨⟨q2, q1, q4, q3⟩, ⟨Ne.symm n1, n5, n4, n3, n2, Ne.symm n6⟩⟩
                  clear m1' m2 m3 m1 bel3 beB3 E1 E2 E3 q1 q2 q3 q4 n1 n2 n3 n4 n5 n6 HL hg3 HA HW
                  have hmin2 := run_min2
                  have hmax2 := run_max2
                  go_wp2
                  go_loopw [17] (fun j w' => ∃ jj : Nat, ii - 2 ≤ jj ∧ jj ≤ len1 + 1 ∧ j = .int .i64 (jj : Int) ∧ wr.grownBy w' none) (fun j _ => len1 + 1 - (intOf j).toNat)
                  case atStart => exact ⟨ii - 2, by omega, by omega, by go_num, World.grownBy.refl _ _⟩
                  case round =>
                    obtain ⟨jj, k4, k5, rfl, hg5⟩ := hrel
                    have HG5 := (show Hid _ from hg5)
                    clear hg5
                    by_cases hj5 : jj ≤ min len1 (ii + 2)
                    · obtain ⟨x, cx, X, bx0, bx1⟩ := trued (HM.out.2.2.2.1.grown HG5.out (by simp)) (show jj < len1 + 1 by omega) A W ii (E5.out jj (by omega))
                      have cy := (HM.out.2.1.grown HG5.out (by simp)).cell (show jj < len1 + 1 by omega)
                      rw [EF.out jj (by omega) (by omega) (by omega), ← X.out] at cy
                      have ht : (Ed.cap x != min x 3) = false := by unfold Ed.cap; simp
                      go_wp2
                      go_quiet (fail)
                      go_wp2
                      go_roundw
                      case rel => exact ⟨jj + 1, by omega, by omega, by go_num, grown_drewN HG5.out _⟩
                      case measure => simp [intOf]; omega
                    · clear hmax2
                      go_wp2
                      go_roundw
                      case rel => exact out_step HM.out HN.out E4.out E5.out HG5.out hl1 hl2 (by have := HB.out.size; rw [HP0.out] at this; exact this) _ (by go_num)
                      case measure => simp [intOf]; omega
        · go_wp2
          all_goals
            go_ret
            exact ⟨rfl, beB⟩
end Go.Proofs.Qxb6601309a
