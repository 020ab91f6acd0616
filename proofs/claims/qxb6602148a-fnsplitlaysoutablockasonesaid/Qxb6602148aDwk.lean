import Derived.Test.Qxb6602148aDwj
attribute [local go_sem] Go.Proofs.Qxb6602148a.yTo Go.Proofs.Qxb6602148a.yUpon
namespace Go.Proofs.Qxb6602148a
open Go.RowKit
set_option linter.unusedVariables false
set_option linter.unusedSimpArgs false

set_option maxRecDepth 40000 in
set_option maxHeartbeats 8000000 in
/-- Regions 0 to 5. -/
theorem dw_pre (w : World) (M : Fam) (P : PS) (p c n : Nat) (sl : Nat → Nat) (hR : Rep KP w M) (hM : PM M P) (hp : M.b 11 = some p) (hgo : DGo P c n sl) (y : Nat → Value) (tail : Code) (Z : World → Prop)
    (hT : ∀ (a : Act) (w' : World) (v7 : Value), FD0 ⟨w, M, p, w.heap.size, w.heap.size + 1, P, c, n, sl, Option.map (fun g => (⟨g, 0, none⟩ : Addr)) (M.b (61 + 3 * c)), M.cap (61 + 3 * c)⟩ v7 a → DDone ⟨w, M, p, w.heap.size, w.heap.size + 1, P, c, n, sl, Option.map (fun g => (⟨g, 0, none⟩ : Addr)) (M.b (61 + 3 * c)), M.cap (61 + 3 * c)⟩ 0 v7 w' → Code.wp Try.prog tail (bodyPost Try.prog Try.f28 fun e w' => e = .returned (.tuple #[]) ∧ Z w') a w') :
    Code.wp Try.prog (rt 6 (Try.f28.body.getD .skip) tail) (bodyPost Try.prog Try.f28 fun e w' => e = .returned (.tuple #[]) ∧ Z w') { tmps := #[.pointer (some ⟨p, 0, none⟩), .int .i64 (c : Int), y 2, y 3, y 4, y 5, y 6, y 7, y 8, y 9, y 10, y 11, y 12, y 13, y 14, y 15, y 16, y 17, y 18, y 19, y 20, y 21, y 22, y 23, y 24, y 25, y 26, y 27, y 28, y 29, y 30, y 31, y 32, y 33, y 34, y 35, y 36, y 37, y 38, y 39, y 40, y 41, y 42, y 43, y 44, y 45, y 46, y 47, y 48, y 49, y 50, y 51, y 52, y 53, y 54, y 55, y 56, y 57, y 58, y 59, y 60, y 61, y 62, y 63, y 64, y 65, y 66, y 67, y 68, y 69, y 70, y 71, y 72, y 73, y 74, y 75, y 76, y 77, y 78, y 79, y 80, y 81, y 82, y 83, y 84, y 85, y 86, y 87, y 88, y 89, y 90, y 91, y 92, y 93, y 94, y 95, y 96, y 97, y 98, y 99, y 100, y 101, y 102, y 103, y 104, y 105, y 106, y 107, y 108, y 109, y 110, y 111, y 112, y 113, y 114, y 115, y 116, y 117, y 118, y 119, y 120, y 121, y 122, y 123, y 124, y 125, y 126, y 127, y 128, y 129, y 130, y 131, y 132, y 133, y 134, y 135, y 136, y 137, y 138, y 139, y 140, y 141, y 142, y 143, y 144, y 145, y 146, y 147, y 148, y 149, y 150, y 151, y 152, y 153, y 154, y 155, y 156, y 157, y 158, y 159, y 160, y 161, y 162, y 163, y 164, y 165, y 166, y 167, y 168, y 169, y 170, y 171, y 172, y 173, y 174, y 175, y 176, y 177, y 178, y 179, y 180, y 181, y 182, y 183, y 184, y 185, y 186, y 187, y 188, y 189, y 190, y 191, y 192, y 193, y 194, y 195, y 196, y 197, y 198, y 199, y 200, y 201, y 202, y 203, y 204, y 205, y 206, y 207, y 208, y 209, y 210, y 211, y 212, y 213, y 214, y 215, y 216, y 217, y 218, y 219, y 220, y 221, y 222, y 223, y 224, y 225, y 226, y 227, y 228, y 229, y 230, y 231, y 232, y 233, y 234, y 235, y 236, y 237, y 238, y 239, y 240, y 241, y 242, y 243, y 244, y 245, y 246, y 247, y 248, y 249, y 250, y 251, y 252, y 253, y 254, y 255, y 256, y 257, y 258, y 259, y 260, y 261, y 262, y 263, y 264, y 265, y 266, y 267, y 268, y 269, y 270, y 271, y 272, y 273, y 274, y 275, y 276, y 277, y 278, y 279, y 280, y 281, y 282, y 283, y 284, y 285, y 286, y 287, y 288, y 289, y 290, y 291, y 292, y 293, y 294, y 295, y 296, y 297, y 298, y 299, y 300, y 301, y 302, y 303, y 304, y 305, y 306, y 307, y 308, y 309, y 310, y 311, y 312, y 313, y 314, y 315, y 316, y 317, y 318, y 319, y 320, y 321, y 322, y 323, y 324, y 325, y 326, y 327, y 328, y 329, y 330, y 331, y 332, y 333, y 334, y 335, y 336, y 337, y 338, y 339, y 340, y 341, y 342, y 343, y 344, y 345, y 346, y 347, y 348, y 349, y 350, y 351, y 352, y 353, y 354, y 355, y 356, y 357, y 358, y 359, y 360, y 361, y 362, y 363, y 364, y 365, y 366, y 367, y 368, y 369, y 370, y 371, y 372, y 373, y 374, y 375, y 376, y 377, y 378, y 379, y 380, y 381, y 382, y 383, y 384, y 385, y 386, y 387, y 388, y 389], defers := [] } w := by
  obtain ⟨g5, b5⟩ := hR.hasBlock (i := 5) (by rw [hM.nC]; have := hgo.cC; omega)
  have x5 := hM.hdr_some hR hp (show 5 < 11 by omega) b5
  rw [hM.nC] at x5
  have l5 := hR.le_cap 5
  rw [hM.nC] at l5
  have xm := (hR.cell b5 (j := c) (by rw [hM.nC]; show c < P.nC * 1; have := hgo.cC; omega)).trans (congrArg some (hM.memh c hgo.cC))
  have hmn : M.n (61 + 3 * c) = n := (hM.mem c hgo.cC).1.trans hgo.mn
  unfold Fam.val at xm
  rw [hmn] at xm
  have f5 := hR.frozen b5 c
  have s5 := hR.lt b5
  have sp := hR.lt hp
  have d1 : p ≠ g5 := fun e => by have := hR.inj 11 5 p hp (by rw [e]; exact b5); omega
  have hc := hgo.cC
  have fin : Hid (∀ o, o = 0 → ∃ v7 : Value, v7 = .slice none 0 0 ∧ DDone ⟨w, M, p, w.heap.size, w.heap.size + 1, P, c, n, sl, Option.map (fun g => (⟨g, 0, none⟩ : Addr)) (M.b (61 + 3 * c)), M.cap (61 + 3 * c)⟩ 0 v7 (((w.setCell ⟨g5, c, none⟩ (.slice none 0 0)).alloc (.cells #[.pointer (some ⟨p, 0, none⟩)] 31)).alloc (.cells #[.int .i64 o] 3))) := by
    intro o ho
    subst ho
    refine ⟨_, rfl, ?_⟩
    have r1 := (hR.move (i := 61 + 3 * c) (j := 12) (by omega) (by rw [KP_mem]; rfl) (fun _ => undef))
    have b5' : ((M.put 12 (M.b (61 + 3 * c)) (M.n (61 + 3 * c)) (M.cap (61 + 3 * c)) (M.F (61 + 3 * c))).put (61 + 3 * c) none 0 0 (fun _ => undef)).b 5 = some g5 := by rw [put_b (by omega), put_b (by omega)]; exact b5
    have r2 := r1.set b5' c (.slice none 0 0)
    have p2 := (hM.put_local (i := 12) (by omega) (M.b (61 + 3 * c)) (M.n (61 + 3 * c)) (M.cap (61 + 3 * c)) (M.F (61 + 3 * c))).drop_mem hgo.cC (fun _ => undef)
    have g2 := ((Grew.refl M w).move (i := 61 + 3 * c) (j := 12) (fun _ => undef)).set (j := c) ⟨5, b5'⟩ 5 c (.slice none 0 0) (.slice none 0 0)
    have l2 : LocX XD M (((M.put 12 (M.b (61 + 3 * c)) (M.n (61 + 3 * c)) (M.cap (61 + 3 * c)) (M.F (61 + 3 * c))).put (61 + 3 * c) none 0 0 (fun _ => undef)).set 5 c (.slice none 0 0)) := (((LocX.refl XD M).put (i := 12) (.inr (by unfold XD; omega)) (by omega)).put (.inl (by unfold Own; omega)) (by omega)).set (.inl (by unfold Own; omega))
    have hsz : (w.setCell ⟨g5, c, none⟩ (.slice none 0 0)).heap.size = w.heap.size := by simp [World.setCell]
    have f13 := fresh_boxg (w.setCell ⟨g5, c, none⟩ (.slice none 0 0)) 31 (.pointer (some ⟨p, 0, none⟩)) w.heap.size hsz.symm
    have f14 := fresh_boxg ((w.setCell ⟨g5, c, none⟩ (.slice none 0 0)).alloc (.cells #[.pointer (some ⟨p, 0, none⟩)] 31)) 3 (.int .i64 0) (w.heap.size + 1) (by simp [World.setCell])
    have r3 := f14.rep (f13.rep r2 13 rfl) 14 rfl
    have g3 := (g2.trans (f13.grew _ 13)).trans (f14.grew _ 14)
    have r4 := r3.drop 15 (fun _ => undef)
    have g4 := g3.put (i := 15) (b := none) (n := 0) (cap := 0) (f := fun _ => undef) (.inr rfl)
    have p4 := ((p2.put_local (i := 13) (by omega) (some w.heap.size) 1 1 (fun _ => .pointer (some ⟨p, 0, none⟩))).put_local (i := 14) (by omega) (some (w.heap.size + 1)) 1 1 (fun _ => .int .i64 0)).put_local (i := 15) (by omega) none 0 0 (fun _ => undef)
    have l4 := ((l2.put (i := 13) (n := 1) (cap := 1) (b := some w.heap.size) (f := fun _ => .pointer (some ⟨p, 0, none⟩)) (.inr (by unfold XD; omega)) (by omega)).put (i := 14) (n := 1) (cap := 1) (b := some (w.heap.size + 1)) (f := fun _ => .int .i64 0) (.inr (by unfold XD; omega)) (by omega)).put (i := 15) (n := 0) (cap := 0) (b := none) (f := fun _ => undef) (.inr (by unfold XD; omega)) (by omega)
    refine ⟨TS.init, 0, fun _ => 0, fun _ _ => 0, fun _ => 0, P.dropMem c, _, ⟨⟨r4, p4, g4, l4, ?_, ?_, ?_, ?_, ?_, ?_⟩, DR.init hgo.nK hgo.nQ hgo.idx, TInv.init _, ⟨?_, ?_⟩, ⟨?_, fun k hk => by omega⟩⟩, ⟨Listed.init _, ?_, fun j hj => by omega, Nat.le_refl _, fun j hj => Nat.zero_le _⟩, ?_, rfl⟩
    · rw [put_b (by omega), put_b (by omega), put_b (by omega), set_b, put_b (by omega), put_b (by omega)]; exact hp
    · rw [put_b (by omega), put_b (by omega), put_bs]
    · rw [put_n (by omega), put_n (by omega), put_ns]
    · rw [put_F (by omega), put_F (by omega), put_Fs]
    · rw [put_b (by omega), put_bs]
    · exact (Ints.put_ne ⟨put_ns, fun j hj => by rw [put_Fs]; rfl⟩ (by omega))
    · rw [put_val (by omega), put_val (by omega), put_val (by omega), set_val, put_val (by omega), put_vals, hmn]
    · refine ((((Ints.put_ne (i := 12) ⟨put_ns.trans hmn, fun j hj => ?_⟩ (by omega)).set_ne (by omega)).put_ne (by omega)).put_ne (by omega)).put_ne (by omega)
      rw [put_Fs, (hM.mem c hgo.cC).2 j (by rw [hgo.mn]; exact hj), hgo.mem j hj]
    · exact put_ns
    · show 0 + dgap P sl (fun _ => 0) n ≤ 4096 * n + 0
      have := dgap_bound (P := P) (sl := sl) (N := n) (fun j hj => hgo.on_le hj) (fun _ => 0) n (Nat.le_refl _)
      omega
    · rw [put_vals]; rfl
  have HTL : Hid (∀ (a : Act) (w' : World) (v7 : Value), FD0 ⟨w, M, p, w.heap.size, w.heap.size + 1, P, c, n, sl, Option.map (fun g => (⟨g, 0, none⟩ : Addr)) (M.b (61 + 3 * c)), M.cap (61 + 3 * c)⟩ v7 a → DDone ⟨w, M, p, w.heap.size, w.heap.size + 1, P, c, n, sl, Option.map (fun g => (⟨g, 0, none⟩ : Addr)) (M.b (61 + 3 * c)), M.cap (61 + 3 * c)⟩ 0 v7 w' → Code.wp Try.prog tail (bodyPost Try.prog Try.f28 fun e w' => e = .returned (.tuple #[]) ∧ Z w') a w') := hT
  clear hT hR hM hp hgo b5 hmn
  generalize Option.map (fun g => (⟨g, 0, none⟩ : Addr)) (M.b (61 + 3 * c)) = am at *
  generalize M.cap (61 + 3 * c) = km at *
  generalize M.cap 5 = k5 at *
  simp only [rt, Try.f28, Option.getD]
  go_wp2
  obtain ⟨v7, rfl, hd⟩ := fin.out 0 rfl
  exact HTL.out _ _ _ ⟨by kernel_rfl, by kernel_rfl, by kernel_rfl, by kernel_rfl, by kernel_rfl, by kernel_rfl, by kernel_rfl, by kernel_rfl⟩ hd
end Go.Proofs.Qxb6602148a
