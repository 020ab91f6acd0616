/-
  'ZZViewB1': a partition copied out.
-/
import Derived.Test.Qxb6602148aVw
attribute [local go_sem] Go.Proofs.Qxb6602148a.yTo Go.Proofs.Qxb6602148a.yUpon
namespace Go.Proofs.Qxb6602148a
open Go.RowKit
set_option linter.unusedVariables false
set_option linter.unusedSimpArgs false

def KV (i : Nat) : TypeId × Nat := if i = 4 ∨ i = 5 then (26, 1) else (3, 1)
theorem KV_o (s : Nat) : KV (7 + 2 * s) = (3, 1) := by unfold KV; rw [if_neg (by omega)]
theorem KV_m (s : Nat) : KV (8 + 2 * s) = (3, 1) := by unfold KV; rw [if_neg (by omega)]

/-- The view of P, its slots before s. -/
structure VA (P : PS) (x0 x1 : Value) (g2 g3 g4 s : Nat) (V : Fam) : Prop where
  f0 : Ints V 0 P.nE P.fr
  f1 : Ints V 1 P.nE P.to
  v0 : V.val 0 = x0
  v1 : V.val 1 = x1
  b2 : V.b 2 = some g2 ∧ V.n 2 = P.nS ∧ V.cap 2 = P.nS
  F2 : ∀ j, j < s → V.F 2 j = .int .i64 (P.node j)
  b3 : V.b 3 = some g3 ∧ V.n 3 = P.nS ∧ V.cap 3 = P.nS
  F3 : ∀ j, j < s → V.F 3 j = .int .i64 (P.comp j)
  b4 : V.b 4 = some g4 ∧ V.n 4 = P.nS ∧ V.cap 4 = P.nS
  F4 : ∀ j, j < s → V.F 4 j = V.val (7 + 2 * j)
  o4 : ∀ j, j < s → Ints V (7 + 2 * j) (P.on j) (P.out j)
/-- And its components before c. -/
structure VB (P : PS) (x0 x1 : Value) (g2 g3 g4 g5 c : Nat) (V : Fam) : Prop where
  va : VA P x0 x1 g2 g3 g4 P.nS V
  b5 : V.b 5 = some g5 ∧ V.n 5 = P.nC ∧ V.cap 5 = P.nC
  F5 : ∀ j, j < c → V.F 5 j = V.val (8 + 2 * j)
  m5 : ∀ j, j < c → Ints V (8 + 2 * j) (P.mn j) (P.mem j)
  z5 : ∀ j, j < c → (V.b (8 + 2 * j) = none ↔ P.mn j = 0)
/-- The view of P in memory. -/
structure VM (V : Fam) (P : PS) : Prop where
  fr : Ints V 0 P.nE P.fr
  tto : Ints V 1 P.nE P.to
  node : Ints V 2 P.nS P.node
  comp : Ints V 3 P.nS P.comp
  n4 : V.n 4 = P.nS
  F4 : ∀ j, j < P.nS → V.F 4 j = V.val (7 + 2 * j)
  o4 : ∀ j, j < P.nS → Ints V (7 + 2 * j) (P.on j) (P.out j)
  n5 : V.n 5 = P.nC
  F5 : ∀ j, j < P.nC → V.F 5 j = V.val (8 + 2 * j)
  m5 : ∀ j, j < P.nC → Ints V (8 + 2 * j) (P.mn j) (P.mem j)
  z5 : ∀ j, j < P.nC → (V.b (8 + 2 * j) = none ↔ P.mn j = 0)
  edg : Ints V 6 P.nC P.edg

/-- What is read of the partition. -/
structure PIn (w0 : World) (M : Fam) (P : PS) (p : Nat) : Prop where
  rep : Rep KP w0 M
  pm : PM M P
  b11 : M.b 11 = some p
  small : P.nE ≤ 100000 ∧ P.nS ≤ 200000 ∧ P.nC ≤ 200000
  on : ∀ s, s < P.nS → P.on s ≤ 1000000
  mn : ∀ c, c < P.nC → P.mn c ≤ 1000000
theorem PIn.at {w0 wr : World} {M V : Fam} {P : PS} {p : Nat} (h : PIn w0 M P p) (hg : Grew Fam.nil w0 V wr) : Rep KP wr M := h.rep.kept (fun i g hb => hg.block g (h.rep.lt hb) (fun i e => by cases e))

structure FV (p : Nat) (x0 x1 : Value) (g2 g3 g4 n : Nat) (a : Act) : Prop where
  sz : a.tmps.size = 113
  df : a.defers = []
  s0 : a.tmps.getD 0 undef = .pointer (some ⟨p, 0, none⟩)
  s2 : a.tmps.getD 2 undef = x0
  s3 : a.tmps.getD 3 undef = x1
  s4 : a.tmps.getD 4 undef = .slice (some ⟨g2, 0, none⟩) n n
  s5 : a.tmps.getD 5 undef = .slice (some ⟨g3, 0, none⟩) n n
  s6 : a.tmps.getD 6 undef = .slice (some ⟨g4, 0, none⟩) n n
set_option maxRecDepth 40000 in
theorem arr_113 (arr : Array Value) (h : arr.size = 113) : ∃ y : Nat → Value, arr = #[y 0, y 1, y 2, y 3, y 4, y 5, y 6, y 7, y 8, y 9, y 10, y 11, y 12, y 13, y 14, y 15, y 16, y 17, y 18, y 19, y 20, y 21, y 22, y 23, y 24, y 25, y 26, y 27, y 28, y 29, y 30, y 31, y 32, y 33, y 34, y 35, y 36, y 37, y 38, y 39, y 40, y 41, y 42, y 43, y 44, y 45, y 46, y 47, y 48, y 49, y 50, y 51, y 52, y 53, y 54, y 55, y 56, y 57, y 58, y 59, y 60, y 61, y 62, y 63, y 64, y 65, y 66, y 67, y 68, y 69, y 70, y 71, y 72, y 73, y 74, y 75, y 76, y 77, y 78, y 79, y 80, y 81, y 82, y 83, y 84, y 85, y 86, y 87, y 88, y 89, y 90, y 91, y 92, y 93, y 94, y 95, y 96, y 97, y 98, y 99, y 100, y 101, y 102, y 103, y 104, y 105, y 106, y 107, y 108, y 109, y 110, y 111, y 112] ∧ ∀ i, y i = arr.getD i undef := by
  refine ⟨fun i => arr.getD i undef, ?_, fun _ => rfl⟩
  exact (arr_map arr 113 h undef).trans (by kernel_rfl)
set_option maxRecDepth 40000 in
theorem litv9 {a : Act} {u0 u2 u3 u4 u5 u6 u9 : Value} (hs : a.tmps.size = 113) (hd : a.defers = []) (h0 : a.tmps.getD 0 undef = u0) (h2 : a.tmps.getD 2 undef = u2) (h3 : a.tmps.getD 3 undef = u3) (h4 : a.tmps.getD 4 undef = u4) (h5 : a.tmps.getD 5 undef = u5) (h6 : a.tmps.getD 6 undef = u6) (h9 : a.tmps.getD 9 undef = u9) : ∃ y : Nat → Value, a = { tmps := #[u0, y 1, u2, u3, u4, u5, u6, y 7, y 8, u9, y 10, y 11, y 12, y 13, y 14, y 15, y 16, y 17, y 18, y 19, y 20, y 21, y 22, y 23, y 24, y 25, y 26, y 27, y 28, y 29, y 30, y 31, y 32, y 33, y 34, y 35, y 36, y 37, y 38, y 39, y 40, y 41, y 42, y 43, y 44, y 45, y 46, y 47, y 48, y 49, y 50, y 51, y 52, y 53, y 54, y 55, y 56, y 57, y 58, y 59, y 60, y 61, y 62, y 63, y 64, y 65, y 66, y 67, y 68, y 69, y 70, y 71, y 72, y 73, y 74, y 75, y 76, y 77, y 78, y 79, y 80, y 81, y 82, y 83, y 84, y 85, y 86, y 87, y 88, y 89, y 90, y 91, y 92, y 93, y 94, y 95, y 96, y 97, y 98, y 99, y 100, y 101, y 102, y 103, y 104, y 105, y 106, y 107, y 108, y 109, y 110, y 111, y 112], defers := [] } := by
  obtain ⟨tmps, defers⟩ := a
  have yd : defers = [] := hd
  subst yd
  obtain ⟨y, hy, hi⟩ := arr_113 tmps hs
  have e0 := (hi 0).trans h0
  have e2 := (hi 2).trans h2
  have e3 := (hi 3).trans h3
  have e4 := (hi 4).trans h4
  have e5 := (hi 5).trans h5
  have e6 := (hi 6).trans h6
  have e9 := (hi 9).trans h9
  rw [e0, e2, e3, e4, e5, e6, e9] at hy
  exact ⟨y, congrArg (fun t => (⟨t, []⟩ : Act)) hy⟩
set_option maxRecDepth 40000 in
theorem litvv {a : Act} {u0 u2 u3 u4 u5 u6 : Value} (hs : a.tmps.size = 113) (hd : a.defers = []) (h0 : a.tmps.getD 0 undef = u0) (h2 : a.tmps.getD 2 undef = u2) (h3 : a.tmps.getD 3 undef = u3) (h4 : a.tmps.getD 4 undef = u4) (h5 : a.tmps.getD 5 undef = u5) (h6 : a.tmps.getD 6 undef = u6) : ∃ y : Nat → Value, a = { tmps := #[u0, y 1, u2, u3, u4, u5, u6, y 7, y 8, y 9, y 10, y 11, y 12, y 13, y 14, y 15, y 16, y 17, y 18, y 19, y 20, y 21, y 22, y 23, y 24, y 25, y 26, y 27, y 28, y 29, y 30, y 31, y 32, y 33, y 34, y 35, y 36, y 37, y 38, y 39, y 40, y 41, y 42, y 43, y 44, y 45, y 46, y 47, y 48, y 49, y 50, y 51, y 52, y 53, y 54, y 55, y 56, y 57, y 58, y 59, y 60, y 61, y 62, y 63, y 64, y 65, y 66, y 67, y 68, y 69, y 70, y 71, y 72, y 73, y 74, y 75, y 76, y 77, y 78, y 79, y 80, y 81, y 82, y 83, y 84, y 85, y 86, y 87, y 88, y 89, y 90, y 91, y 92, y 93, y 94, y 95, y 96, y 97, y 98, y 99, y 100, y 101, y 102, y 103, y 104, y 105, y 106, y 107, y 108, y 109, y 110, y 111, y 112], defers := [] } := by
  obtain ⟨tmps, defers⟩ := a
  have yd : defers = [] := hd
  subst yd
  obtain ⟨y, hy, hi⟩ := arr_113 tmps hs
  have e0 := (hi 0).trans h0
  have e2 := (hi 2).trans h2
  have e3 := (hi 3).trans h3
  have e4 := (hi 4).trans h4
  have e5 := (hi 5).trans h5
  have e6 := (hi 6).trans h6
  rw [e0, e2, e3, e4, e5, e6] at hy
  exact ⟨y, congrArg (fun t => (⟨t, []⟩ : Act)) hy⟩
set_option maxRecDepth 40000 in
theorem litv10 {a : Act} {u0 u2 u3 u4 u5 u6 u7 u10 : Value} (hs : a.tmps.size = 113) (hd : a.defers = []) (h0 : a.tmps.getD 0 undef = u0) (h2 : a.tmps.getD 2 undef = u2) (h3 : a.tmps.getD 3 undef = u3) (h4 : a.tmps.getD 4 undef = u4) (h5 : a.tmps.getD 5 undef = u5) (h6 : a.tmps.getD 6 undef = u6) (h7 : a.tmps.getD 7 undef = u7) (h10 : a.tmps.getD 10 undef = u10) : ∃ y : Nat → Value, a = { tmps := #[u0, y 1, u2, u3, u4, u5, u6, u7, y 8, y 9, u10, y 11, y 12, y 13, y 14, y 15, y 16, y 17, y 18, y 19, y 20, y 21, y 22, y 23, y 24, y 25, y 26, y 27, y 28, y 29, y 30, y 31, y 32, y 33, y 34, y 35, y 36, y 37, y 38, y 39, y 40, y 41, y 42, y 43, y 44, y 45, y 46, y 47, y 48, y 49, y 50, y 51, y 52, y 53, y 54, y 55, y 56, y 57, y 58, y 59, y 60, y 61, y 62, y 63, y 64, y 65, y 66, y 67, y 68, y 69, y 70, y 71, y 72, y 73, y 74, y 75, y 76, y 77, y 78, y 79, y 80, y 81, y 82, y 83, y 84, y 85, y 86, y 87, y 88, y 89, y 90, y 91, y 92, y 93, y 94, y 95, y 96, y 97, y 98, y 99, y 100, y 101, y 102, y 103, y 104, y 105, y 106, y 107, y 108, y 109, y 110, y 111, y 112], defers := [] } := by
  obtain ⟨tmps, defers⟩ := a
  have yd : defers = [] := hd
  subst yd
  obtain ⟨y, hy, hi⟩ := arr_113 tmps hs
  have e0 := (hi 0).trans h0
  have e2 := (hi 2).trans h2
  have e3 := (hi 3).trans h3
  have e4 := (hi 4).trans h4
  have e5 := (hi 5).trans h5
  have e6 := (hi 6).trans h6
  have e7 := (hi 7).trans h7
  have e10 := (hi 10).trans h10
  rw [e0, e2, e3, e4, e5, e6, e7, e10] at hy
  exact ⟨y, congrArg (fun t => (⟨t, []⟩ : Act)) hy⟩
set_option maxRecDepth 40000 in
theorem litv7 {a : Act} {u0 u2 u3 u4 u5 u6 u7 : Value} (hs : a.tmps.size = 113) (hd : a.defers = []) (h0 : a.tmps.getD 0 undef = u0) (h2 : a.tmps.getD 2 undef = u2) (h3 : a.tmps.getD 3 undef = u3) (h4 : a.tmps.getD 4 undef = u4) (h5 : a.tmps.getD 5 undef = u5) (h6 : a.tmps.getD 6 undef = u6) (h7 : a.tmps.getD 7 undef = u7) : ∃ y : Nat → Value, a = { tmps := #[u0, y 1, u2, u3, u4, u5, u6, u7, y 8, y 9, y 10, y 11, y 12, y 13, y 14, y 15, y 16, y 17, y 18, y 19, y 20, y 21, y 22, y 23, y 24, y 25, y 26, y 27, y 28, y 29, y 30, y 31, y 32, y 33, y 34, y 35, y 36, y 37, y 38, y 39, y 40, y 41, y 42, y 43, y 44, y 45, y 46, y 47, y 48, y 49, y 50, y 51, y 52, y 53, y 54, y 55, y 56, y 57, y 58, y 59, y 60, y 61, y 62, y 63, y 64, y 65, y 66, y 67, y 68, y 69, y 70, y 71, y 72, y 73, y 74, y 75, y 76, y 77, y 78, y 79, y 80, y 81, y 82, y 83, y 84, y 85, y 86, y 87, y 88, y 89, y 90, y 91, y 92, y 93, y 94, y 95, y 96, y 97, y 98, y 99, y 100, y 101, y 102, y 103, y 104, y 105, y 106, y 107, y 108, y 109, y 110, y 111, y 112], defers := [] } := by
  obtain ⟨tmps, defers⟩ := a
  have yd : defers = [] := hd
  subst yd
  obtain ⟨y, hy, hi⟩ := arr_113 tmps hs
  have e0 := (hi 0).trans h0
  have e2 := (hi 2).trans h2
  have e3 := (hi 3).trans h3
  have e4 := (hi 4).trans h4
  have e5 := (hi 5).trans h5
  have e6 := (hi 6).trans h6
  have e7 := (hi 7).trans h7
  rw [e0, e2, e3, e4, e5, e6, e7] at hy
  exact ⟨y, congrArg (fun t => (⟨t, []⟩ : Act)) hy⟩

theorem results_tmp7 {fn : Func} {t1 t2 t3 t4 t5 t6 t7 : Tmp} (h : fn.results = #[.tmp t1, .tmp t2, .tmp t3, .tmp t4, .tmp t5, .tmp t6, .tmp t7]) (tmps : Array Value) (P : Program) (w : World) :
    (results fn tmps).run P w = .ok (.tuple #[tmps.getD t1 undef, tmps.getD t2 undef, tmps.getD t3 undef, tmps.getD t4 undef, tmps.getD t5 undef, tmps.getD t6 undef, tmps.getD t7 undef]) w := by
  simp [results, h]

theorem set_cap {M : Fam} {i j : Nat} {v : Value} : (M.set i j v).cap = M.cap := rfl
theorem Ints.nil' (V : Fam) (r : Nat) (b : Option Nat) (n cap : Nat) (f : Nat → Int) : Ints (V.put r b n cap (fun j => .int .i64 (f j))) r n f := ⟨put_ns, fun j hj => by rw [put_Fs]⟩

section
variable {P : PS} {x0 x1 : Value} {g2 g3 g4 g5 s c : Nat} {V : Fam}
/-- One slot more. -/
theorem VA.next (h : VA P x0 x1 g2 g3 g4 s V) (hs : s < P.nS) (b : Option Nat) (cap : Nat) :
    VA P x0 x1 g2 g3 g4 (s + 1) ((((V.set 2 s (.int .i64 (P.node s))).set 3 s (.int .i64 (P.comp s))).put (7 + 2 * s) b (P.on s) cap (fun j => .int .i64 (P.out s j))).set 4 s ((((V.set 2 s (.int .i64 (P.node s))).set 3 s (.int .i64 (P.comp s))).put (7 + 2 * s) b (P.on s) cap (fun j => .int .i64 (P.out s j))).val (7 + 2 * s))) := by
  refine ⟨(((h.f0.set_ne (by omega)).set_ne (by omega)).put_ne (by omega)).set_ne (by omega), (((h.f1.set_ne (by omega)).set_ne (by omega)).put_ne (by omega)).set_ne (by omega), ?_, ?_, ?_, fun j hj => ?_, ?_, fun j hj => ?_, ?_, fun j hj => ?_, fun j hj => ?_⟩
  · rw [set_val, put_val (by omega), set_val, set_val]; exact h.v0
  · rw [set_val, put_val (by omega), set_val, set_val]; exact h.v1
  · exact ⟨by rw [set_b, put_b (by omega)]; exact h.b2.1, by rw [set_n, put_n (by omega)]; exact h.b2.2.1, by rw [set_cap, put_cap (by omega)]; exact h.b2.2.2⟩
  · rw [set_F _ (by omega), put_F (by omega), set_F _ (by omega)]
    by_cases e : j = s
    · subst e; rw [set_Fs]
    · rw [set_Fj e]; exact h.F2 j (by omega)
  · exact ⟨by rw [set_b, put_b (by omega)]; exact h.b3.1, by rw [set_n, put_n (by omega)]; exact h.b3.2.1, by rw [set_cap, put_cap (by omega)]; exact h.b3.2.2⟩
  · rw [set_F _ (by omega), put_F (by omega)]
    by_cases e : j = s
    · subst e; rw [set_Fs]
    · rw [set_Fj e, set_F _ (by omega)]; exact h.F3 j (by omega)
  · exact ⟨by rw [set_b, put_b (by omega)]; exact h.b4.1, by rw [set_n, put_n (by omega)]; exact h.b4.2.1, by rw [set_cap, put_cap (by omega)]; exact h.b4.2.2⟩
  · rw [set_val]
    by_cases e : j = s
    · subst e; rw [set_Fs]
    · rw [set_Fj e, put_F (by omega), set_F _ (by omega), set_F _ (by omega), put_val (by omega), set_val, set_val]; exact h.F4 j (by omega)
  · by_cases e : j = s
    · subst e
      exact (Ints.nil' _ _ _ _ _ _).set_ne (by omega)
    · exact ((((h.o4 j (by omega)).set_ne (by omega)).set_ne (by omega)).put_ne (by omega)).set_ne (by omega)
theorem VA.more (h : VA P x0 x1 g2 g3 g4 s V) {r n cap : Nat} {b : Option Nat} {F : Nat → Value} (hr : r = 5 ∨ r = 6 ∨ (8 ≤ r ∧ r % 2 = 0)) : VA P x0 x1 g2 g3 g4 s (V.put r b n cap F) := by
  refine ⟨h.f0.put_ne (by omega), h.f1.put_ne (by omega), (put_val (by omega)).trans h.v0, (put_val (by omega)).trans h.v1, ⟨(put_b (by omega)).trans h.b2.1, (put_n (by omega)).trans h.b2.2.1, (put_cap (by omega)).trans h.b2.2.2⟩, fun j hj => by rw [put_F (by omega)]; exact h.F2 j hj, ⟨(put_b (by omega)).trans h.b3.1, (put_n (by omega)).trans h.b3.2.1, (put_cap (by omega)).trans h.b3.2.2⟩, fun j hj => by rw [put_F (by omega)]; exact h.F3 j hj, ⟨(put_b (by omega)).trans h.b4.1, (put_n (by omega)).trans h.b4.2.1, (put_cap (by omega)).trans h.b4.2.2⟩, fun j hj => by rw [put_F (by omega), put_val (by omega)]; exact h.F4 j hj, fun j hj => (h.o4 j hj).put_ne (by omega)⟩
theorem VA.set5 (h : VA P x0 x1 g2 g3 g4 s V) {i : Nat} {v : Value} : VA P x0 x1 g2 g3 g4 s (V.set 5 i v) :=
  ⟨h.f0.set_ne (by omega), h.f1.set_ne (by omega), h.v0, h.v1, h.b2, fun j hj => by rw [set_F _ (by omega)]; exact h.F2 j hj, h.b3, fun j hj => by rw [set_F _ (by omega)]; exact h.F3 j hj, h.b4, fun j hj => by rw [set_F _ (by omega), set_val]; exact h.F4 j hj, fun j hj => (h.o4 j hj).set_ne (by omega)⟩
theorem VB.next (h : VB P x0 x1 g2 g3 g4 g5 c V) (hc : c < P.nC) (b : Option Nat) (cap : Nat) (hb : b = none ↔ P.mn c = 0) :
    VB P x0 x1 g2 g3 g4 g5 (c + 1) ((V.put (8 + 2 * c) b (P.mn c) cap (fun j => .int .i64 (P.mem c j))).set 5 c ((V.put (8 + 2 * c) b (P.mn c) cap (fun j => .int .i64 (P.mem c j))).val (8 + 2 * c))) := by
  refine ⟨(h.va.more (by omega)).set5, ⟨by rw [set_b, put_b (by omega)]; exact h.b5.1, by rw [set_n, put_n (by omega)]; exact h.b5.2.1, by rw [set_cap, put_cap (by omega)]; exact h.b5.2.2⟩, fun j hj => ?_, fun j hj => ?_, fun j hj => ?_⟩
  · rw [set_val]
    by_cases e : j = c
    · subst e; rw [set_Fs]
    · rw [set_Fj e, put_F (by omega), put_val (by omega)]; exact h.F5 j (by omega)
  · by_cases e : j = c
    · subst e
      exact (Ints.nil' _ _ _ _ _ _).set_ne (by omega)
    · exact ((h.m5 j (by omega)).put_ne (by omega)).set_ne (by omega)
  · rw [set_b]
    by_cases e : j = c
    · subst e; rw [put_bs]; exact hb
    · rw [put_b (by omega)]; exact h.z5 j (by omega)
theorem VB.done (h : VB P x0 x1 g2 g3 g4 g5 P.nC V) (b : Option Nat) (cap : Nat) : VM (V.put 6 b P.nC cap (fun j => .int .i64 (P.edg j))) P := by
  have a := h.va.more (r := 6) (n := P.nC) (cap := cap) (b := b) (F := fun j => .int .i64 (P.edg j)) (by omega)
  exact ⟨a.f0, a.f1, ⟨a.b2.2.1, a.F2⟩, ⟨a.b3.2.1, a.F3⟩, a.b4.2.1, a.F4, a.o4, (put_n (by omega)).trans h.b5.2.1, fun j hj => by rw [put_F (by omega), put_val (by omega)]; exact h.F5 j hj, fun j hj => (h.m5 j hj).put_ne (by omega), fun j hj => by rw [put_b (by omega)]; exact h.z5 j hj, Ints.nil' _ _ _ _ _ _⟩
end
end Go.Proofs.Qxb6602148a
