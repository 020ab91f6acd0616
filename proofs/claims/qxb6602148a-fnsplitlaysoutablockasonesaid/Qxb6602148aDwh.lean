import Derived.Test.Qxb6602148aDwg
attribute [local go_sem] Go.Proofs.Qxb6602148a.yTo Go.Proofs.Qxb6602148a.yUpon
namespace Go.Proofs.Qxb6602148a
open Go.RowKit
set_option linter.unusedVariables false
set_option linter.unusedSimpArgs false

set_option maxRecDepth 40000 in
theorem litd_14 {x : DX} {v7 v39 : Value} {a : Act} (hf : FD x v7 v39 a) {u14 : Value} (h14 : a.tmps.getD 14 undef = u14) : ∃ y : Nat → Value, a = { tmps := #[y 0, .int .i64 (x.c : Int), .pointer (some ⟨x.q13, 0, none⟩), y 3, .slice x.a12 x.n x.k12, .pointer (some ⟨x.q14, 0, none⟩), .func (.func 33) #[] #[.pointer (some ⟨x.q14, 0, none⟩), .pointer (some ⟨x.q13, 0, none⟩)], v7, y 8, y 9, y 10, y 11, y 12, y 13, u14, y 15, y 16, y 17, y 18, y 19, y 20, y 21, y 22, y 23, y 24, y 25, y 26, y 27, y 28, y 29, y 30, y 31, y 32, y 33, y 34, y 35, y 36, .slice x.a12 x.n x.k12, .int .i64 (x.n : Int), v39, y 40, y 41, y 42, y 43, y 44, y 45, y 46, y 47, y 48, y 49, y 50, y 51, y 52, y 53, y 54, y 55, y 56, y 57, y 58, y 59, y 60, y 61, y 62, y 63, y 64, y 65, y 66, y 67, y 68, y 69, y 70, y 71, y 72, y 73, y 74, y 75, y 76, y 77, y 78, y 79, y 80, y 81, y 82, y 83, y 84, y 85, y 86, y 87, y 88, y 89, y 90, y 91, y 92, y 93, y 94, y 95, y 96, y 97, y 98, y 99, y 100, y 101, y 102, y 103, y 104, y 105, y 106, y 107, y 108, y 109, y 110, y 111, y 112, y 113, y 114, y 115, y 116, y 117, y 118, y 119, y 120, y 121, y 122, y 123, y 124, y 125, y 126, y 127, y 128, y 129, y 130, y 131, y 132, y 133, y 134, y 135, y 136, y 137, y 138, y 139, y 140, y 141, y 142, y 143, y 144, y 145, y 146, y 147, y 148, y 149, y 150, y 151, y 152, y 153, y 154, y 155, y 156, y 157, y 158, y 159, y 160, y 161, y 162, y 163, y 164, y 165, y 166, y 167, y 168, y 169, y 170, y 171, y 172, y 173, y 174, y 175, y 176, y 177, y 178, y 179, y 180, y 181, y 182, y 183, y 184, y 185, y 186, y 187, y 188, y 189, y 190, y 191, y 192, y 193, y 194, y 195, y 196, y 197, y 198, y 199, y 200, y 201, y 202, y 203, y 204, y 205, y 206, y 207, y 208, y 209, y 210, y 211, y 212, y 213, y 214, y 215, y 216, y 217, y 218, y 219, y 220, y 221, y 222, y 223, y 224, y 225, y 226, y 227, y 228, y 229, y 230, y 231, y 232, y 233, y 234, y 235, y 236, y 237, y 238, y 239, y 240, y 241, y 242, y 243, y 244, y 245, y 246, y 247, y 248, y 249, y 250, y 251, y 252, y 253, y 254, y 255, y 256, y 257, y 258, y 259, y 260, y 261, y 262, y 263, y 264, y 265, y 266, y 267, y 268, y 269, y 270, y 271, y 272, y 273, y 274, y 275, y 276, y 277, y 278, y 279, y 280, y 281, y 282, y 283, y 284, y 285, y 286, y 287, y 288, y 289, y 290, y 291, y 292, y 293, y 294, y 295, y 296, y 297, y 298, y 299, y 300, y 301, y 302, y 303, y 304, y 305, y 306, y 307, y 308, y 309, y 310, y 311, y 312, y 313, y 314, y 315, y 316, y 317, y 318, y 319, y 320, y 321, y 322, y 323, y 324, y 325, y 326, y 327, y 328, y 329, y 330, y 331, y 332, y 333, y 334, y 335, y 336, y 337, y 338, y 339, y 340, y 341, y 342, y 343, y 344, y 345, y 346, y 347, y 348, y 349, y 350, y 351, y 352, y 353, y 354, y 355, y 356, y 357, y 358, y 359, y 360, y 361, y 362, y 363, y 364, y 365, y 366, y 367, y 368, y 369, y 370, y 371, y 372, y 373, y 374, y 375, y 376, y 377, y 378, y 379, y 380, y 381, y 382, y 383, y 384, y 385, y 386, y 387, y 388, y 389], defers := [] } := by
  obtain ⟨tmps, defers⟩ := a
  have yd : defers = [] := hf.df
  subst yd
  obtain ⟨y, hy, hi⟩ := arr_390 tmps hf.sz
  have e1 := (hi 1).trans hf.s1
  have e2 := (hi 2).trans hf.s2
  have e4 := (hi 4).trans hf.s4
  have e5 := (hi 5).trans hf.s5
  have e6 := (hi 6).trans hf.s6
  have e7 := (hi 7).trans hf.s7
  have e14 := (hi 14).trans h14
  have e37 := (hi 37).trans hf.s37
  have e38 := (hi 38).trans hf.s38
  have e39 := (hi 39).trans hf.s39
  rw [e1, e2, e4, e5, e6, e7, e14, e37, e38, e39] at hy
  exact ⟨y, congrArg (fun t => (⟨t, []⟩ : Act)) hy⟩

/-- 'append([]int{}, s...)', s from the middle of a row. -/
theorem run_append_clone_off {P : Program} (w : World) (t ty e : TypeId) (i : TypeInfo) (z : Value) (bytes : Nat) (ht : P.underlying t = some (.slice e)) (hi : P.info? e = some i) (hz : i.zero = some z) (hsize : i.size = 1) (hby : i.bytes = bytes) (hzs : z.cells.size = 1)
    (b0 : Addr) (b o n c : Nat) (F : Nat → Value) (hn : 0 < n) (hc : ∀ j, j < n → w.cell? ⟨b, o + j, none⟩ = some (F j)) (hb0 : 0 < bytes) (hb : n * bytes ≤ 140737488355328) :
    ∃ g cap w', (Builtin.append_ #[t, t] ty #[.slice (some b0) 0 0, .slice (some ⟨b, o, none⟩) n c]).run P w = .ok (.slice (some ⟨g, 0, none⟩) n cap) w' ∧ Fresh w w' e 1 g n cap F := by
  subst hby
  have hn1 : n ≤ n * i.bytes := Nat.le_mul_of_pos_right _ hb0
  have h := run_append_grow (P := P) w t ty e i z ht hi hz b0 0 0 [] (by simp) (by intro j v hv; simp at hv) ⟨b, o, none⟩ n c ((List.range n).map F) (by simp [hsize]) (by
      intro j v hv
      rw [Addr.add_lit]
      rw [List.getElem?_map] at hv
      rcases Nat.lt_or_ge j n with hj | hj
      · rw [List.getElem?_range hj] at hv
        simp only [Option.map_some] at hv
        injection hv with hv
        rw [← hv]; exact hc j hj
      · rw [List.getElem?_eq_none (by simpa using hj)] at hv
        cases hv) (by omega) (by omega) (growslice_fits (by omega) (by rw [Nat.zero_add]; exact hb))
  simp only [Nat.zero_add] at h
  refine ⟨_, _, _, h, rfl, rfl, rfl, by simp, fun k hk => Below.heap_alloc w.drew _ _ hk, Nat.le_refl _, _, heap_alloc_new w.drew _, grownCap_ge w n 0 e, grownCap_le_maxLen w n 0 e (by simp only [maxLen]; omega), ?_, ?_⟩
  · simp only [Array.size_append, List.size_toArray, size_zeroCells, hzs, List.length_map, List.length_range, List.length_nil]
    have := grownCap_ge w n 0 e
    omega
  · intro j hj
    have hj : j < n := by omega
    rw [Array.getElem?_append_left (by simpa using hj)]
    simp [hj]
theorem wpList_append_clone_off {P : Program} {w : World} {ops : Array Oper} {rest : List Oper} {o : Oper} {a : Act} {Q : Exit → Act → World → Prop} (hgd : o.guard = none) (s x : Operand) (t : TypeId)
    (ho : o.op = .call { callee := .builtin .append, args := #[s, x], argTypes := #[t, t] }) (e : TypeId) (i : TypeInfo) (z : Value) (bytes : Nat) (ht : P.underlying t = some (.slice e)) (hi : P.info? e = some i) (hz : i.zero = some z) (hsize : i.size = 1) (hby : i.bytes = bytes) (hzs : z.cells.size = 1)
    (b0 : Addr) (b off n c : Nat) (F : Nat → Value) (hs : a.eval s = .slice (some b0) 0 0) (hx : a.eval x = .slice (some ⟨b, off, none⟩) n c) (hn : 0 < n) (hc : ∀ j, j < n → w.cell? ⟨b, off + j, none⟩ = some (F j)) (hb0 : 0 < bytes) (hb : n * bytes ≤ 140737488355328)
    (hC : ∀ g cap w', Fresh w w' e 1 g n cap F → wpList P ops Q rest (a.put o.dst (.slice (some ⟨g, 0, none⟩) n cap)) w') : wpList P ops Q (o :: rest) a w := by
  obtain ⟨g', cap', w', hr, h2⟩ := run_append_clone_off (P := P) w t o.type e i z bytes ht hi hz hsize hby hzs b0 b off n c F hn hc hb0 hb
  refine wpList_plain hgd fun _ hKK => ?_
  unfold Oper.wp execOp
  simp only [ho, resolve, invoke, builtin, Sem.run_bind, Sem.run_pure, Result.andThen_ok, List.map_toArray, List.map_cons, List.map_nil, hs, hx, hr]
  exact hKK _ _ (hC g' cap' w' h2)

set_option maxHeartbeats 400000 in
theorem clone_calls_off (w : World) (b o n c : Nat) (f : Nat → Int) (hn : 0 < n) (hc : ∀ j, j < n → w.cell? ⟨b, o + j, none⟩ = some (.int .i64 (f j))) (hb : n ≤ 100000000) :
    Calls Try.prog 34 #[.slice (some ⟨b, o, none⟩) n c] w fun e w' => ∃ g cap, e = .returned (.slice (some ⟨g, 0, none⟩) n cap) ∧ Fresh w w' 3 1 g n cap (fun j => .int .i64 (f j)) := by
  obtain ⟨i3, hi3, hz30, hz31, hz32⟩ := info_parts Try.info3
  have HC : Hid (∀ j, j < n → (w.alloc (.cells #[] 3)).cell? ⟨b, o + j, none⟩ = some (.int .i64 (f j))) := by
    intro j hj
    have hlt : b < w.heap.size := World.block_lt_of_cell? w _ (hc j hj)
    simp only [World.cell?, Below.heap_alloc _ _ _ hlt]
    exact hc j hj
  have he := fun (a : Option Addr) (n c : Nat) (w : World) => Lib.run_eql_slice_nil (P := Try.prog) w 26 3 a n c 0 0 Try.underlying26
  clear hc
  go_enter Try.func34, Try.ntmps34
  go_wp2_with (at_builtin; refine wpList_append_clone_off rfl (.tmp 5) (.tmp 6) 26 rfl 3 i3 (.int .i64 0) 8 Try.underlying26 hi3 hz30 hz31 hz32 rfl ⟨w.heap.size, 0, none⟩ b o n c (fun j => .int .i64 (f j)) rfl rfl hn HC.out (by decide) (by omega) ?_; intro g cap w' hF; have HF : Hid (Fresh w w' 3 1 g n cap (fun j => .int .i64 (f j))) := hF.from_alloc; clear hF)
  go_ret
  exact ⟨_, _, rfl, HF.out⟩

/-- A row of the call's own, in a new block. -/
theorem DIn.fresh {w wr w2 : World} {M M' : Fam} {p q13 q14 : Nat} {vis : Int} {P' : PS} (h : DIn w M p q13 q14 vis wr M' P') {e : TypeId} {sz g n cap : Nat} {F : Nat → Value} (hF : Fresh wr w2 e sz g n cap F) {r : Nat} (hK : KP r = (e, sz)) (hr : Own r) (hx : XD r) (h13 : r ≠ 13 ∧ r ≠ 14) : DIn w M p q13 q14 vis w2 (M'.put r (some g) n cap F) P' := by
  have ho : 12 ≤ r := hr.1
  refine ⟨hF.rep h.rep r hK, h.pm.put_local hr _ _ _ _, h.grew.trans (hF.grew M' r), h.loc.put (.inr hx) (by omega), (put_b (by omega)).trans h.b11, (put_b (by omega)).trans h.b13, (put_n (by omega)).trans h.n13, ?_, (put_b (by omega)).trans h.b14, h.i14.put_ne (by omega)⟩
  rw [put_F (by omega)]; exact h.f13
theorem DIn.putl {w wr w2 : World} {M M' : Fam} {p q13 q14 : Nat} {vis : Int} {P' : PS} (h : DIn w M p q13 q14 vis wr M' P') {r n cap : Nat} {b : Option Nat} {F : Nat → Value} (hr : Own r) (hx : XD r) (h13 : r ≠ 13 ∧ r ≠ 14) (hR : Rep KP w2 (M'.put r b n cap F)) (hG : Grew M w (M'.put r b n cap F) w2) : DIn w M p q13 q14 vis w2 (M'.put r b n cap F) P' := by
  have ho : 12 ≤ r := hr.1
  refine ⟨hR, h.pm.put_local hr _ _ _ _, hG, h.loc.put (.inr hx) (by omega), (put_b (by omega)).trans h.b11, (put_b (by omega)).trans h.b13, (put_n (by omega)).trans h.n13, ?_, (put_b (by omega)).trans h.b14, h.i14.put_ne (by omega)⟩
  rw [put_F (by omega)]; exact h.f13
theorem KP_list (k : Nat) : KP (62 + 3 * k) = (3, 1) := by
  unfold KP
  repeat rw [if_neg (by omega)]

/-- One list more. -/
theorem Strong.more {M : Fam} {K : Nat} {ln : Nat → Nat} {ls : Nat → Nat → Nat} (h : Strong M K ln ls) {n : Nat} {f : Nat → Nat} {g cap g' k' : Nat} :
    Strong ((M.put (62 + 3 * K) (some g) n cap (fun j => .int .i64 ((f j : Nat) : Int))).put 15 (some g') (K + 1) k' (ext ((M.put (62 + 3 * K) (some g) n cap (fun j => .int .i64 ((f j : Nat) : Int))).F 15) (K * 1) [.slice (some ⟨g, 0, none⟩) n cap])) (K + 1) (up ln K n) (fun k => if k = K then f else ls k) := by
  refine ⟨put_ns, fun k hk => ?_⟩
  rw [put_Fs, put_val (by omega)]
  unfold ext
  by_cases e : k = K
  · subst e
    rw [if_neg (by omega), put_vals, up_same]
    refine ⟨by rw [show k - k * 1 = 0 by omega]; rfl, ?_⟩
    refine Ints.put_ne ⟨put_ns, fun j hj => ?_⟩ (by omega)
    rw [put_Fs]
    simp
  · obtain ⟨a, b⟩ := h.2 k (by omega)
    rw [if_pos (by omega), put_F (by omega), put_val (by omega), up_other _ _ e]
    refine ⟨a, ?_⟩
    simp only [if_neg e]
    exact (b.put_ne (by omega)).put_ne (by omega)

/-- How the lists stand behind it. -/
def More (s : TS) (K : Nat) (ln : Nat → Nat) (ls : Nat → Nat → Nat) (K' : Nat) (ln' : Nat → Nat) (ls' : Nat → Nat → Nat) : Prop :=
  (s.h - s.sp (s.m - 1) = 1 ∧ K' = K ∧ ln' = ln ∧ ls' = ls) ∨ (2 ≤ s.h - s.sp (s.m - 1) ∧ K' = K + 1 ∧ ln' = up ln K (s.h - s.sp (s.m - 1)) ∧ ls' = fun k => if k = K then fun j => s.st (s.sp (s.m - 1) + j) else ls k)

set_option maxRecDepth 40000 in
set_option maxHeartbeats 8000000 in
/-- Regions 34 and 35: a component of two slots or more is listed. -/
theorem dw_pop3a (x : DX) (v7 v39 : Value) (a : Act) (s : TS) (K : Nat) (ln : Nat → Nat) (ls : Nat → Nat → Nat) (P3 : PS) (M' : Fam) (wr : World) (hf : FD x v7 v39 a) (h14 : a.tmps.getD 14 undef = .int .i64 ((s.sp (s.m - 1) : Nat) : Int)) (hsp : s.sp (s.m - 1) < s.h) (hv : s.h ≤ 99999990) (hKv : K ≤ 99999990) (hD : DIn x.w x.M x.p x.q13 x.q14 ((s.vis : Nat) : Int) wr M' P3) (nK : P3.nK = s.h) (hst : ∀ i, i < s.h → P3.stk i = ((s.st i : Nat) : Int)) (kp : DKp x K ln ls v7 M') (Q : Exit → Act → World → Prop)
    (hC : ∀ (a : Act) (w' : World) (K' : Nat) (ln' : Nat → Nat) (ls' : Nat → Nat → Nat) (v7' : Value) (M5 : Fam), FD x v7' v39 a → a.tmps.getD 14 undef = .int .i64 ((s.sp (s.m - 1) : Nat) : Int) → DIn x.w x.M x.p x.q13 x.q14 ((s.vis : Nat) : Int) w' M5 P3 → DKp x K' ln' ls' v7' M5 → More s K ln ls K' ln' ls' → Code.wp Try.prog (tl 10 (d3 (Try.f28.body.getD .skip))) Q a w') :
    Code.wp Try.prog (tl 9 (d3 (Try.f28.body.getD .skip))) Q a wr := by
  have hv7 := kp.v15
  subst hv7
  obtain ⟨y, rfl⟩ := litd_14 hf h14
  have n9 : M'.n 9 = s.h := hD.pm.stk.1.trans nK
  obtain ⟨g9, b9⟩ := hD.rep.hasBlock (i := 9) (by rw [n9]; omega)
  have x1 := hD.box
  have x2 := hD.pm.hdr_some hD.rep hD.b11 (show 9 < 11 by omega) b9
  rw [n9] at x2
  have l9 := hD.rep.le_cap 9
  have m9 := hD.rep.cap_le 9
  rw [n9] at l9
  simp only [maxLen] at m9
  have hcl : ∀ j, j < s.h - s.sp (s.m - 1) → wr.cell? ⟨g9, s.sp (s.m - 1) + j, none⟩ = some (.int .i64 ((s.st (s.sp (s.m - 1) + j) : Nat) : Int)) := by
    intro j hj
    have := hD.pm.stk.cell hD.rep b9 rfl (show s.sp (s.m - 1) + j < P3.nK by omega)
    rw [hst _ (by omega)] at this
    exact this
  have HC : Hid (∀ (a : Act) (w' : World) (K' : Nat) (ln' : Nat → Nat) (ls' : Nat → Nat → Nat) (v7' : Value) (M5 : Fam), FD x v7' v39 a → a.tmps.getD 14 undef = .int .i64 ((s.sp (s.m - 1) : Nat) : Int) → DIn x.w x.M x.p x.q13 x.q14 ((s.vis : Nat) : Int) w' M5 P3 → DKp x K' ln' ls' v7' M5 → More s K ln ls K' ln' ls' → Code.wp Try.prog (tl 10 (d3 (Try.f28.body.getD .skip))) Q a w') := hC
  have HDD : Hid (DIn x.w x.M x.p x.q13 x.q14 ((s.vis : Nat) : Int) wr M' P3) := hD
  have HKP : Hid (DKp x K ln ls (M'.val 15) M') := kp
  have HCL : Hid (∀ j, j < s.h - s.sp (s.m - 1) → wr.cell? ⟨g9, s.sp (s.m - 1) + j, none⟩ = some (.int .i64 ((s.st (s.sp (s.m - 1) + j) : Nat) : Int))) := hcl
  have hsub : ((s.h : Nat) : Int) - ((s.sp (s.m - 1) : Nat) : Int) = ((s.h - s.sp (s.m - 1) : Nat) : Int) := by omega
  have hws : IntKind.i64.wrap (((s.h : Nat) : Int) - ((s.sp (s.m - 1) : Nat) : Int)) = ((s.h - s.sp (s.m - 1) : Nat) : Int) := by rw [IntKind.wrap_i64]; omega
  have lspi : ((s.sp (s.m - 1) : Nat) : Int) ≤ ((s.h : Nat) : Int) := by omega
  have lsp : s.sp (s.m - 1) ≤ s.h := by omega
  have lsk : s.sp (s.m - 1) ≤ M'.cap 9 := by omega
  clear hC hD kp hcl b9 n9 nK hst hf h14
  generalize M'.cap 9 = k9 at *
  show Code.wp Try.prog (Code.seq (Code.seq _ (Code.cond (.tmp 290) _ Code.skip)) (tl 10 (d3 (Try.f28.body.getD .skip)))) Q _ wr
  refine wp_seq_k (fun K1 hK => ?_)
  have HK : Hid (∀ (a : Act) (w : World), _ → K1 a w) := hK
  clear hK
  refine wp_seq_k (fun K2 hK => ?_)
  have HK2 : Hid (∀ (a : Act) (w : World), _ → K2 a w) := hK
  clear hK
  by_cases h2 : 2 ≤ s.h - s.sp (s.m - 1)
  · have h2i : (1 : Int) < ((s.h - s.sp (s.m - 1) : Nat) : Int) := by omega
    go_wp2
    refine HK2.out _ _ (wp_cond_true (by kernel_rfl) ?_)
    clear HK2 K2
    obtain ⟨i26, hi26, hz260, hz261, hz262⟩ := info_parts Try.info26
    have n15 : Hid (∀ g cap, (M'.put (62 + 3 * K) (some g) (s.h - s.sp (s.m - 1)) cap (fun j => .int .i64 ((s.st (s.sp (s.m - 1) + j) : Nat) : Int))).n 15 = K) := fun g cap => (put_n (by omega)).trans HKP.out.st.1
    go_wp2_with (first
      | (go_at_call 34; refine (clone_calls_off wr g9 (s.sp (s.m - 1)) (s.h - s.sp (s.m - 1)) _ (fun j => ((s.st (s.sp (s.m - 1) + j) : Nat) : Int)) (by omega) HCL.out (by omega)).mono ?_
         rintro e w1 ⟨g, cap, rfl, hF⟩
         have HD4 : Hid (DIn x.w x.M x.p x.q13 x.q14 ((s.vis : Nat) : Int) w1 (M'.put (62 + 3 * K) (some g) (s.h - s.sp (s.m - 1)) cap (fun j => .int .i64 ((s.st (s.sp (s.m - 1) + j) : Nat) : Int))) P3) := HDD.out.fresh hF (KP_list K) (by unfold Own; omega) (by unfold XD; omega) (by omega)
         clear hF)
      | (at_builtin; refine wpList_append_row rfl (HD4.out.rep.alloc _) 15 K (n15.out g cap) (.tmp 291) (.tmp 299) 22 rfl 26 i26 (.slice none 0 0) 1 24 rfl Try.underlying22 hi26 hz260 hz261 hz262 rfl (by decide) (Eq.trans rfl (put_val (by omega)).symm) ⟨w1.heap.size, 0, none⟩ 1 [.slice (some ⟨g, 0, none⟩) (s.h - s.sp (s.m - 1)) cap] rfl rfl (news1 _ _ _) (by simp [Value.oneCell']) (by omega) (by decide) ?_
         intro g15 k15 w2 hR2 hG2
         have HR2 : Hid (Rep KP w2 _) := hR2
         have HG2 : Hid (Grew _ _ _ w2) := hG2
         clear hR2 hG2))
    refine HK.out _ _ ?_
    have HD5 := HD4.out.putl (r := 15) (by unfold Own; omega) (by unfold XD; omega) (by omega) HR2.out ((HD4.out.grew.alloc _).trans HG2.out)
    refine HC.out _ _ (K + 1) _ _ (.slice (some ⟨g15, 0, none⟩) (K + 1) k15) _ ⟨by kernel_rfl, by kernel_rfl, by kernel_rfl, by kernel_rfl, by kernel_rfl, by kernel_rfl, by kernel_rfl, by kernel_rfl, by kernel_rfl, by kernel_rfl, by kernel_rfl⟩ (by kernel_rfl) HD5 ⟨⟨?_, ?_⟩, HKP.out.st.more, ?_⟩ (.inr ⟨h2, rfl, rfl, rfl⟩)
    · rw [put_val (by omega), put_val (by omega)]; exact HKP.out.r12.1
    · exact (HKP.out.r12.2.put_ne (by omega)).put_ne (by omega)
    · rw [put_vals]; rfl
  · have h2i : ¬ (1 : Int) < ((s.h - s.sp (s.m - 1) : Nat) : Int) := by omega
    go_wp2
    refine HK2.out _ _ (wp_cond_false (by kernel_rfl) (wp_skip ?_))
    refine HK.out _ _ ?_
    exact HC.out _ _ K ln ls _ M' ⟨by kernel_rfl, by kernel_rfl, by kernel_rfl, by kernel_rfl, by kernel_rfl, by kernel_rfl, by kernel_rfl, by kernel_rfl, by kernel_rfl, by kernel_rfl, by kernel_rfl⟩ (by kernel_rfl) HDD.out HKP.out (.inl ⟨by omega, rfl, rfl, rfl⟩)

set_option maxRecDepth 40000 in
set_option maxHeartbeats 8000000 in
/-- Region 36: the stack is cut. -/
theorem dw_pop3b (x : DX) (v7 v39 : Value) (a : Act) (s : TS) (K : Nat) (ln : Nat → Nat) (ls : Nat → Nat → Nat) (P3 : PS) (M' : Fam) (wr : World) (hf : FD x v7 v39 a) (h14 : a.tmps.getD 14 undef = .int .i64 ((s.sp (s.m - 1) : Nat) : Int)) (hsp : s.sp (s.m - 1) < s.h) (hv : s.h ≤ 99999990) (hD : DIn x.w x.M x.p x.q13 x.q14 ((s.vis : Nat) : Int) wr M' P3) (nK : P3.nK = s.h) (kp : DKp x K ln ls v7 M') (Q : Exit → Act → World → Prop)
    (hC : ∀ (a : Act) (w' : World) (M6 : Fam), FD x v7 v39 a → DIn x.w x.M x.p x.q13 x.q14 ((s.vis : Nat) : Int) w' M6 { P3 with nK := s.sp (s.m - 1) } → DKp x K ln ls v7 M6 → Q .normal a w') :
    Code.wp Try.prog (tl 10 (d3 (Try.f28.body.getD .skip))) Q a wr := by
  obtain ⟨y, rfl⟩ := litd_14 hf h14
  have n9 : M'.n 9 = s.h := hD.pm.stk.1.trans nK
  obtain ⟨g9, b9⟩ := hD.rep.hasBlock (i := 9) (by rw [n9]; omega)
  have x1 := hD.box
  have x2 := hD.pm.hdr_some hD.rep hD.b11 (show 9 < 11 by omega) b9
  rw [n9] at x2
  have l9 := hD.rep.le_cap 9
  have m9 := hD.rep.cap_le 9
  rw [n9] at l9
  simp only [maxLen] at m9
  have f9 := hD.rep.frozen hD.b11 9
  have fin : Hid (DIn x.w x.M x.p x.q13 x.q14 ((s.vis : Nat) : Int) ((wr.setCell ⟨x.p, 9, none⟩ (.slice (some ⟨g9, 0, none⟩) (s.sp (s.m - 1)) (M'.cap 9))).drew) ((M'.put 9 (M'.b 9) (s.sp (s.m - 1)) (M'.cap 9) (M'.F 9)).set 11 9 (.slice (some ⟨g9, 0, none⟩) (s.sp (s.m - 1)) (M'.cap 9))) { P3 with nK := s.sp (s.m - 1) }) := by
    have h1 := hD.pm.cut_stk (n := s.sp (s.m - 1)) (by omega) (M'.b 9) (M'.cap 9)
    have h2 : (Option.map (fun g => (⟨g, 0, none⟩ : Addr)) (M'.b 9)) = some ⟨g9, 0, none⟩ := by rw [b9]; rfl
    rw [h2] at h1
    exact (hD.cutp (i := 9) (by omega) (by omega) (by rw [n9]; omega) h1).drew
  have kp2 : Hid (DKp x K ln ls v7 ((M'.put 9 (M'.b 9) (s.sp (s.m - 1)) (M'.cap 9) (M'.F 9)).set 11 9 (.slice (some ⟨g9, 0, none⟩) (s.sp (s.m - 1)) (M'.cap 9)))) := (kp.put (by omega)).set (by omega)
  have HC : Hid (∀ (a : Act) (w' : World) (M6 : Fam), FD x v7 v39 a → DIn x.w x.M x.p x.q13 x.q14 ((s.vis : Nat) : Int) w' M6 { P3 with nK := s.sp (s.m - 1) } → DKp x K ln ls v7 M6 → Q .normal a w') := hC
  have lspi : ((s.sp (s.m - 1) : Nat) : Int) ≤ ((s.h : Nat) : Int) := by omega
  have lsp : s.sp (s.m - 1) ≤ s.h := by omega
  have lsk : s.sp (s.m - 1) ≤ M'.cap 9 := by omega
  clear hC hD kp b9 n9 nK hf h14
  generalize M'.cap 9 = k9 at *
  show Code.wp Try.prog (Code.region _ _ _) Q _ wr
  have FK : Hid (∀ k w', k ≤ 0 → C1 wr.drew ((wr.setCell ⟨x.p, 9, none⟩ (.slice (some ⟨g9, 0, none⟩) (s.sp (s.m - 1)) k9)).drew) k w' → w' = wr.drew) := by
    intro k w' hk hw
    have hk : k = 0 := by omega
    subst hk
    exact hw
  refine wp_region_stage (C1 wr.drew ((wr.setCell ⟨x.p, 9, none⟩ (.slice (some ⟨g9, 0, none⟩) (s.sp (s.m - 1)) k9)).drew)) [9] (fun i => 0) (by kernel_rfl) (by kernel_rfl) (rfl) ?_
  refine wpStage_read rfl rfl ?_
  apply Exists.intro
  refine ⟨fun k w' hk hw => ?_, ?_⟩
  · have hw0 := FK.out k w' hk hw
    subst hw0
    go_simp
    first | rfl | exact ⟨rfl, hw⟩
  go_simp
  refine wpStage_read rfl rfl ?_
  apply Exists.intro
  refine ⟨fun k w' hk hw => ?_, ?_⟩
  · have hw0 := FK.out k w' hk hw
    subst hw0
    go_simp
    first | rfl | exact ⟨rfl, hw⟩
  go_simp
  refine wpStage_read rfl rfl ?_
  apply Exists.intro
  refine ⟨fun k w' hk hw => ?_, ?_⟩
  · go_simp
    first | rfl | exact ⟨rfl, hw⟩
  go_simp
  refine wpStage_read rfl rfl ?_
  apply Exists.intro
  refine ⟨fun k w' hk hw => ?_, ?_⟩
  · go_simp
    first | rfl | exact ⟨rfl, hw⟩
  go_simp
  refine wpStage_read rfl rfl ?_
  apply Exists.intro
  refine ⟨fun k w' hk hw => ?_, ?_⟩
  · have hw0 := FK.out k w' hk hw
    subst hw0
    go_simp
    first | rfl | exact ⟨rfl, hw⟩
  go_simp
  refine wpStage_read rfl rfl ?_
  apply Exists.intro
  refine ⟨fun k w' hk hw => ?_, ?_⟩
  · go_simp
    first | rfl | exact ⟨rfl, hw⟩
  go_simp
  refine wpStage_read rfl rfl ?_
  apply Exists.intro
  refine ⟨fun k w' hk hw => ?_, ?_⟩
  · go_simp
    first | rfl | exact ⟨rfl, hw⟩
  go_simp
  refine wpStage_read rfl rfl ?_
  apply Exists.intro
  refine ⟨fun k w' hk hw => ?_, ?_⟩
  · go_simp
    first | rfl | exact ⟨rfl, hw⟩
  go_simp
  refine wpStage_read rfl rfl ?_
  apply Exists.intro
  refine ⟨fun k w' hk hw => ?_, ?_⟩
  · go_simp
    first | rfl | exact ⟨rfl, hw⟩
  go_simp
  refine wpStage_move rfl rfl ?_
  apply Exists.intro
  refine ⟨fun w' hw => ?_, ?_⟩
  · have hw : w' = wr.drew := hw
    subst hw
    go_simp
    first | rfl | exact ⟨rfl, rfl⟩
  go_simp
  intro w' hw0
  have hw : w' = ((wr.setCell ⟨x.p, 9, none⟩ (.slice (some ⟨g9, 0, none⟩) (s.sp (s.m - 1)) k9)).drew) := hw0
  clear hw0
  rw [← hw] at fin
  exact HC.out _ _ _ ⟨by kernel_rfl, by kernel_rfl, by kernel_rfl, by kernel_rfl, by kernel_rfl, by kernel_rfl, by kernel_rfl, by kernel_rfl, by kernel_rfl, by kernel_rfl, by kernel_rfl⟩ fin.out kp2.out
end Go.Proofs.Qxb6602148a
