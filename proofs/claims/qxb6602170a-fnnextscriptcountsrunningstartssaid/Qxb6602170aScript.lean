import Derived.Test.Qxb6602170aStrs
import Derived.Deep.RegionWith
import Derived.Deep.QuietTactic
import Derived.BigQuiet
import Derived.Deep.DeepCutAuto
import Derived.LaidEqlPtr
namespace Go.Proofs.Qxb6602170a
open Go.RowKit
set_option linter.unusedVariables false

set_option maxRecDepth 100000 in
set_option maxHeartbeats 4000000 in
/-- Too large: the law lets it pass. -/
theorem script_big (s0 bo po er : ByteArray) (a0 pid start : Int) (hp hf : Bool) (a : Option Addr) (len cap : Nat) (S : Nat → ByteArray) (w : World) (h : IsStr w a len S)
    (h0 : s0.size ≤ maxLen) (h1 : bo.size ≤ maxLen) (h2 : po.size ≤ maxLen) (h3 : er.size ≤ maxLen) (hb : ¬ (len ≤ 65536 ∧ s0.size + bo.size + po.size + er.size + 16 * len ≤ 1048576)) :
    Calls Try.prog 7 #[.string s0, .int .i64 a0, .bool hp, .string bo, .int .i64 pid, .int .u64 start, .bool hf, .string po, .string er, .slice a len cap] w
      fun e w' => e = .returned (.bool true) ∧ Below w.heap.size w w' := by
  have hz := zz_any s0 bo po er a0 pid start hp hf a len cap S w h h0 h1 h2 h3
  have HZ : Hid (Calls Try.prog 16 #[.string s0, .int .i64 a0, .bool hp, .string bo, .int .i64 pid, .int .u64 start, .bool hf, .string po, .string er, .slice a len cap] w fun e w' => ZPost w e w') := hz
  have hm := h.1
  clear h hz
  unfold maxLen at h0 h1 h2 h3 hm
  go_enter Try.func7, Try.ntmps7
  go_wp2_with fail
  refine HZ.out.mono ?_
  rintro e w' ⟨b, rfl, rfl⟩
  clear HZ
  cases b
  · go_wp2
    go_ret
    exact ⟨rfl, Below.refl _ _⟩
  · go_wp2
    all_goals first | (exfalso; omega) | (go_ret; exact ⟨rfl, Below.refl _ _⟩)

/-- What is recorded of a proc, if any, among new blocks. -/
def ProcRel (bo : ByteArray) (pid start : Int) (w1 : World) (p : Value) (w' : World) : Prop :=
  ∃ pv, p = .pointer pv ∧ Below w1.heap.size w1 w' ∧ (pv = none ∨ ∃ X, pv = some ⟨X, 0, none⟩ ∧ w'.heap[X]? = some (.cells #[.string bo, .string ByteArray.empty, .int .i64 pid, .int .u64 start] 38 (0, 0)))
def FailRel (bo : ByteArray) (pid start : Int) (pv ao : Option Addr) (len : Nat) (S : Nat → ByteArray) (w : World) (p : Value) (w' : World) : Prop :=
  ∃ fv, p = .pointer fv ∧ Below w.heap.size w w' ∧ OwnStr w.heap.size w' ao len S ∧ (pv = none ∨ ∃ X, pv = some ⟨X, 0, none⟩ ∧ w'.heap[X]? = some (.cells #[.string bo, .string ByteArray.empty, .int .i64 pid, .int .u64 start] 38 (0, 0)))
theorem FailRel.mk {bo : ByteArray} {pid start : Int} {pv ao fv : Option Addr} {len : Nat} {S : Nat → ByteArray} {w w1 wc w' : World} (B1 : Below w.heap.size w w1) (Bc : Below w1.heap.size w1 wc) (ho : OwnStr w.heap.size w1 ao len S)
    (hp : pv = none ∨ ∃ X, pv = some ⟨X, 0, none⟩ ∧ wc.heap[X]? = some (.cells #[.string bo, .string ByteArray.empty, .int .i64 pid, .int .u64 start] 38 (0, 0))) (Bd : Below wc.heap.size wc w') :
    FailRel bo pid start pv ao len S w (.pointer fv) w' := by
  refine ⟨fv, rfl, (B1.trans (Bc.mono B1.size)).trans (Bd.mono (Nat.le_trans B1.size Bc.size)), ?_, ?_⟩
  · rcases ho with h | ⟨q, h1, h2, h3⟩
    · exact .inl h
    · exact .inr ⟨q, h1, h2, (h3.of_block (Bc.block q h3.lt)).of_block (Bd.block q (Nat.lt_of_lt_of_le h3.lt Bc.size))⟩
  · rcases hp with h | ⟨X, h1, h2⟩
    · exact .inl h
    · refine .inr ⟨X, h1, (Bd.block X ?_).trans h2⟩
      rcases Nat.lt_or_ge X wc.heap.size with h | h
      · exact h
      · simp [Array.getElem?_eq_none h] at h2

/-- The attempts behind k steps. -/
def attA (S : Nat → ByteArray) (a0 : Int) : Nat → Int
  | 0 => a0
  | k + 1 => nextA (S k) (attA S a0 k)
/-- The failure handed with step j. -/
def wantF (S : Nat → ByteArray) (FB : Nat) (j : Nat) : Option Addr := bif ((S j).toList == [70, 97, 105, 108, 101, 100]) then some ⟨FB, 0, none⟩ else none

def QRel (S : Nat → ByteArray) (s0 : ByteArray) (a0 : Int) (pv fv : Option Addr) (FB QB len : Nat) (W0 : World) (i : Value) (wr : World) : Prop :=
  ∃ (k : Nat) (qs : ByteArray) (qa : Int) (qp qf : Option Addr), k ≤ len ∧ i = .int .i64 (k : Int) ∧ Below QB W0 wr ∧ wr.heap[QB]? = some (.cells #[.string qs, .int .i64 qa, .pointer qp, .pointer qf] 44 (0, 0)) ∧
    qa = attA S a0 k ∧ (k = 0 → qs = s0 ∧ qp = pv ∧ qf = fv) ∧ (0 < k → qs = S (k - 1) ∧ qp = none ∧ qf = wantF S FB (k - 1))

/-- The four cells of a block. -/
theorem cells4 {w : World} {b : Nat} {v0 v1 v2 v3 : Value} {t : TypeId} (h : w.heap[b]? = some (.cells #[v0, v1, v2, v3] t (0, 0))) :
    w.cell? ⟨b, 0, none⟩ = some v0 ∧ w.cell? ⟨b, 1, none⟩ = some v1 ∧ w.cell? ⟨b, 2, none⟩ = some v2 ∧ w.cell? ⟨b, 3, none⟩ = some v3 ∧ ∀ j, w.frozen? ⟨b, j, none⟩ = false := by
  refine ⟨?_, ?_, ?_, ?_, fun j => ?_⟩ <;> simp [World.cell?, World.frozen?, h]

theorem OwnStr.below {B QB : Nat} {w w' : World} {a : Option Addr} {n : Nat} {S : Nat → ByteArray} (h : OwnStr B w a n S) (hb : Below QB w w') (hB : w.heap.size ≤ QB) : OwnStr B w' a n S := by
  rcases h with h | ⟨q, h1, h2, h3⟩
  · exact .inl h
  · exact .inr ⟨q, h1, h2, h3.of_block (hb.block q (Nat.lt_of_lt_of_le h3.lt hB))⟩

theorem heap_new (w : World) (o : Obj) : (w.alloc o).heap[w.heap.size]? = some o := by
  show (w.heap.push o)[w.heap.size]? = _
  simp

theorem OwnStr.two {B n : Nat} {w W0 wr : World} {a : Option Addr} {S : Nat → ByteArray} (h : OwnStr B w a n S) (b0 : Below w.heap.size w W0) (bq : Below (w.heap.size + 1 + 1) W0 wr) : OwnStr B wr a n S := by
  rcases h with h | ⟨q, h1, h2, h3⟩
  · exact .inl h
  · have := h3.lt
    exact .inr ⟨q, h1, h2, h3.of_block ((bq.block q (by omega)).trans (b0.block q h3.lt))⟩

theorem block_set {w : World} {b : Nat} {cs : Array Value} {t : TypeId} {fr : Nat × Nat} (h : w.heap[b]? = some (.cells cs t fr)) (j : Nat) (v : Value) : (w.setCell ⟨b, j, none⟩ v).heap[b]? = some (.cells (cs.setIfInBounds j v) t fr) := by
  simp only [World.setCell, Array.getElem?_modify]
  simp [h]

theorem q_step {S : Nat → ByteArray} {s0 qs : ByteArray} {a0 qa : Int} {pv fv qp qf f : Option Addr} {FB QB len k : Nat} {W0 wr wr' w9 : World} (hk : k < len) (bq : Below QB W0 wr)
    (hq : wr.heap[QB]? = some (.cells #[.string qs, .int .i64 qa, .pointer qp, .pointer qf] 44 (0, 0))) (hh : wr'.heap = wr.heap) (ho : wr'.os = wr.os) (ht : wr'.tape = wr.tape) (hou : wr'.output = wr.output) (hb9 : Below wr'.heap.size wr' w9)
    (hE : qa = attA S a0 k) (hf : f = wantF S FB k) (z : Int) (hz : z = (k : Int) + 1) :
    QRel S s0 a0 pv fv FB QB len W0 (.int .i64 z) ((((w9.setCell ⟨QB, 0, none⟩ (.string (S k))).setCell ⟨QB, 1, none⟩ (.int .i64 (nextA (S k) qa))).setCell ⟨QB, 2, none⟩ (.pointer none)).setCell ⟨QB, 3, none⟩ (.pointer f)) := by
  have hlt : QB < wr.heap.size := by
    rcases Nat.lt_or_ge QB wr.heap.size with h | h
    · exact h
    · simp [Array.getElem?_eq_none h] at hq
  have h9 : Below wr.heap.size wr w9 := ⟨hb9.os.trans ho, hb9.tape.trans ht, hb9.output.trans hou, by have := hb9.size; rw [hh] at this; exact this, fun j hj => by have := hb9.block j (by rw [hh]; exact hj); rw [this, hh]⟩
  have b9 : Below QB W0 w9 := bq.trans (h9.mono (Nat.le_of_lt hlt))
  have q9 := (h9.block QB hlt).trans hq
  refine ⟨k + 1, S k, nextA (S k) qa, none, f, by omega, by rw [hz]; simp, (((b9.setCell (Nat.le_refl _) _).setCell (Nat.le_refl _) _).setCell (Nat.le_refl _) _).setCell (Nat.le_refl _) _, ?_, by rw [hE]; rfl, fun h => by omega, fun _ => ⟨rfl, rfl, hf⟩⟩
  exact block_set (block_set (block_set (block_set q9 0 _) 1 _) 2 _) 3 _

theorem wantF_yes {S : Nat → ByteArray} {FB k : Nat} (h : ((S k).toList == [70, 97, 105, 108, 101, 100]) = true) : some ⟨FB, 0, none⟩ = wantF S FB k := by unfold wantF; rw [h]; rfl
theorem wantF_no {S : Nat → ByteArray} {FB k : Nat} (h : ((S k).toList == [70, 97, 105, 108, 101, 100]) = false) : none = wantF S FB k := by unfold wantF; rw [h]; rfl

theorem att_yes {S : Nat → ByteArray} {a0 : Int} {m R : Nat} (h : attA S a0 m = wrap64 (a0 + R)) (hy : ((S m).toList == [82, 117, 110, 110, 105, 110, 103]) = true) : attA S a0 (m + 1) = wrap64 (a0 + ((R + 1 : Nat) : Int)) := by
  show nextA (S m) (attA S a0 m) = _
  unfold nextA
  rw [hy, h]
  show wrap64 (wrap64 (a0 + R) + 1) = _
  unfold wrap64
  omega
theorem att_no {S : Nat → ByteArray} {a0 : Int} {m R : Nat} (h : attA S a0 m = wrap64 (a0 + R)) (hy : ((S m).toList == [82, 117, 110, 110, 105, 110, 103]) = false) : attA S a0 (m + 1) = wrap64 (a0 + (R : Int)) := by
  show nextA (S m) (attA S a0 m) = _
  unfold nextA
  rw [hy, h]
  rfl

theorem Try.info38 : (Try.prog.info? 38).map (fun i => i.size) = some 4 := by kernel_rfl
theorem Try.info41 : (Try.prog.info? 41).map (fun i => i.size) = some 3 := by kernel_rfl
theorem eqp {t e : TypeId} (h : Try.prog.underlying t = some (.pointer e)) {n : Nat} (hs : (Try.prog.info? e).map (fun i => i.size) = some n) (d : Nat) (p : Option Addr) (w : World) : (Op.equalIn (d + 1) t (.pointer p) (.pointer p)).run Try.prog w = .ok true w := by
  obtain ⟨i, hi, hsz⟩ := Option.map_eq_some_iff.1 hs
  cases p with
  | none => simp [Op.equalIn, run_underlying h]
  | some a => simp [Op.equalIn, run_underlying h, sizeOf, typeInfo, hi, run_sameAddr_same]
theorem neqp {t e : TypeId} (h : Try.prog.underlying t = some (.pointer e)) {n : Nat} (hs : (Try.prog.info? e).map (fun i => i.size) = some n) (p : Option Addr) (w : World) : (binOp .neq t (.pointer p) (.pointer p)).run Try.prog w = .ok (.bool false) w := by
  have := eqp h hs 9999 p w
  simp only [binOp]
  simp [Op.equal, Op.maxDepth, this]
theorem eqlp {t e : TypeId} (h : Try.prog.underlying t = some (.pointer e)) {n : Nat} (hs : (Try.prog.info? e).map (fun i => i.size) = some n) (p : Option Addr) (w : World) : (binOp .eql t (.pointer p) (.pointer p)).run Try.prog w = .ok (.bool true) w := by
  have := eqp h hs 9999 p w
  simp only [binOp]
  simp [Op.equal, Op.maxDepth, this]
theorem eqs (qs : ByteArray) (a : Int) (p f : Option Addr) (w : World) : (binOp .eql 44 (.agg #[.string qs, .int .i64 a, .pointer p, .pointer f]) (.agg #[.string qs, .int .i64 a, .pointer p, .pointer f])).run Try.prog w = .ok (.bool true) w := by
  have h1 := eqp Try.underlying36 Try.info38 9998 p w
  have h2 := eqp Try.underlying39 Try.info41 9998 f w
  go_simp

/-- The recorded proc's cells, in a later world. -/
theorem proc_cells {wc W0 wr : World} {X : Nat} {v0 v1 v2 v3 : Value} (hX : wc.heap[X]? = some (.cells #[v0, v1, v2, v3] 38 (0, 0))) (b0 : Below wc.heap.size wc W0) (bq : Below (wc.heap.size + 1 + 1) W0 wr) :
    wr.cell? ⟨X, 0, none⟩ = some v0 ∧ wr.cell? ⟨X, 1, none⟩ = some v1 ∧ wr.cell? ⟨X, 2, none⟩ = some v2 ∧ wr.cell? ⟨X, 3, none⟩ = some v3 ∧ ∀ j, wr.frozen? ⟨X, j, none⟩ = false := by
  have hlt : X < wc.heap.size := by
    rcases Nat.lt_or_ge X wc.heap.size with h | h
    · exact h
    · simp [Array.getElem?_eq_none h] at hX
  exact cells4 (((bq.block X (by omega)).trans (b0.block X hlt)).trans hX)

theorem three_new (w : World) (a b c : Obj) : (((w.alloc a).alloc b).alloc c).heap.size = w.heap.size + 1 + 1 + 1 ∧ (((w.alloc a).alloc b).alloc c).heap[w.heap.size + 1 + 1]? = some c ∧
    (((w.alloc a).alloc b).alloc c).heap[w.heap.size + 1]? = some b ∧ Below w.heap.size w (((w.alloc a).alloc b).alloc c) := by
  have s1 : (w.alloc a).heap.size = w.heap.size + 1 := by simp
  have s2 : ((w.alloc a).alloc b).heap.size = w.heap.size + 1 + 1 := by simp
  refine ⟨by simp, ?_, ?_, (((Below.refl _ _).alloc (Nat.le_refl _) _).alloc (by omega) _).alloc (by omega) _⟩
  · rw [← s2]; exact heap_new _ _
  · rw [Below.heap_alloc _ _ _ (by omega), ← s1]; exact heap_new _ _

set_option maxRecDepth 100000 in
set_option maxHeartbeats 4000000 in
theorem script_small (s0 bo po er : ByteArray) (a0 pid start : Int) (hp hf : Bool) (a : Option Addr) (len cap : Nat) (S : Nat → ByteArray) (w : World) (h : IsStr w a len S)
    (hb1 : len ≤ 65536) (hb2 : s0.size + bo.size + po.size + er.size + 16 * len ≤ 1048576) (hwa : wrap64 a0 = a0) :
    Calls Try.prog 7 #[.string s0, .int .i64 a0, .bool hp, .string bo, .int .i64 pid, .int .u64 start, .bool hf, .string po, .string er, .slice a len cap] w
      fun e w' => e = .returned (.bool true) ∧ Below w.heap.size w w' := by
  have hz := zz_any s0 bo po er a0 pid start hp hf a len cap S w h (by unfold maxLen; omega) (by unfold maxLen; omega) (by unfold maxLen; omega) (by unfold maxLen; omega)
  have HZ : Hid (Calls Try.prog 16 #[.string s0, .int .i64 a0, .bool hp, .string bo, .int .i64 pid, .int .u64 start, .bool hf, .string po, .string er, .slice a len cap] w fun e w' => ZPost w e w') := hz
  have H : Hid (IsStr w a len S) := h
  have HA0 : Hid (wrap64 a0 = a0) := hwa
  clear h hz hwa
  have d0 : decide ((1048576 : Int) < (s0.size : Int)) = false := decide_eq_false (by omega)
  have d1 : decide ((1048576 : Int) < (bo.size : Int)) = false := decide_eq_false (by omega)
  have d2 : decide ((1048576 : Int) < (po.size : Int)) = false := decide_eq_false (by omega)
  have d3 : decide ((1048576 : Int) < (er.size : Int)) = false := decide_eq_false (by omega)
  have d4 : decide ((65536 : Int) < (len : Int)) = false := decide_eq_false (by omega)
  have d5 : decide ((1048576 : Int) < (s0.size : Int) + (bo.size : Int) + (po.size : Int) + (er.size : Int) + 16 * (len : Int)) = false := decide_eq_false (by omega)
  go_enter Try.func7, Try.ntmps7
  go_wp2_with fail
  refine HZ.out.mono ?_
  rintro e w' ⟨b, rfl, rfl⟩
  clear HZ
  cases b
  · go_wp2
    go_ret
    exact ⟨rfl, Below.refl _ _⟩
  · go_wp2
    clear d0 d1 d2 d3 d4 d5
    go_loop [21, 22] (fun t i => ∃ (k : Nat) (T : Int), k ≤ len ∧ i = .int .i64 k ∧ t = .int .i64 T ∧ 0 ≤ T ∧ T ≤ 1048576) (fun _ i => len - (intOf i).toNat)
    case atStart => exact ⟨0, _, by omega, rfl, rfl, by omega, by omega⟩
    case round =>
      obtain ⟨k, T, g1, rfl, rfl, g2, g3⟩ := hrel
      by_cases hk : k < len
      · rcases H.out.2 with h | ⟨b, off, rfl, hc⟩
        · omega
        obtain ⟨hc, hs⟩ := hc k hk
        unfold maxLen at hs
        obtain ⟨s, es⟩ : ∃ s, s = S k := ⟨_, rfl⟩
        rw [← es] at hc hs
        clear es
        go_wp2
        all_goals try (go_ret; exact ⟨rfl, Below.refl _ _⟩)
        go_round
        case rel => exact ⟨k + 1, _, by omega, by go_num, rfl, by omega, by omega⟩
        case measure => simp [intOf]; omega
      · have dk : decide ((k : Int) < (len : Int)) = false := decide_eq_false (by omega)
        go_wp2_with fail
        refine (clone_any a len cap S w H.out hb1).mono ?_
        rintro e w1 ⟨⟨ao, c, rfl, hao⟩, B1⟩
        have HO : Hid (OwnStr w.heap.size w1 ao len S) := hao
        clear hao H
        clear g1 g2 g3 hk
        go_upto_if 109 with (fail)
        go_cut [23] (fun p w' => ProcRel bo pid start w1 p w')
        case first =>
          cases hp
          · go_wp2
            go_meet
            case rel => exact ⟨none, rfl, Below.refl _ _, .inl rfl⟩
          · go_wp2
            go_meet
            case rel => exact ⟨_, rfl, (Below.refl _ _).alloc (Nat.le_refl _) _, .inr ⟨_, rfl, heap_new _ _⟩⟩
        case rest =>
          obtain ⟨pv, rfl, Bc, hpv⟩ := hcut
          have HPV : Hid (pv = none ∨ ∃ X, pv = some ⟨X, 0, none⟩ ∧ wc.heap[X]? = some (.cells #[.string bo, .string ByteArray.empty, .int .i64 pid, .int .u64 start] 38 (0, 0))) := hpv
          clear hpv
          go_upto_if 115 with (fail)
          go_cut [24] (fun p w' => FailRel bo pid start pv ao len S w p w')
          case first =>
            cases hf
            · go_wp2
              go_meet
              case rel => exact FailRel.mk B1 Bc HO.out HPV.out (Below.refl _ _)
            · go_wp2
              go_meet
              case rel => exact FailRel.mk B1 Bc HO.out HPV.out ((Below.refl _ _).alloc (Nat.le_refl _) _)
          case rest =>
            clear HO HPV B1 Bc
            obtain ⟨fv, rfl, Bd, ho, hpv⟩ := hcut
            have HO : Hid (OwnStr w.heap.size wc ao len S) := ho
            have HPV : Hid (pv = none ∨ ∃ X, pv = some ⟨X, 0, none⟩ ∧ wc.heap[X]? = some (.cells #[.string bo, .string ByteArray.empty, .int .i64 pid, .int .u64 start] 38 (0, 0))) := hpv
            clear ho hpv
            go_wp2
            obtain ⟨W0, hW0⟩ : ∃ W0, W0 = ((wc.alloc (.cells #[.string po, .bool false, .string er] 41)).alloc (.cells #[.string s0, .int .i64 a0, .pointer pv, .pointer fv] 44)).alloc (.cells #[.string s0, .int .i64 a0, .pointer pv, .pointer fv] 44) := ⟨_, rfl⟩
            obtain ⟨hsz, hQ, hP, B0⟩ := three_new wc (.cells #[.string po, .bool false, .string er] 41) (.cells #[.string s0, .int .i64 a0, .pointer pv, .pointer fv] 44) (.cells #[.string s0, .int .i64 a0, .pointer pv, .pointer fv] 44)
            rw [← hW0] at hsz hQ hP B0 ⊢
            clear hW0
            have HW : Hid (W0.heap.size = wc.heap.size + 1 + 1 + 1 ∧ W0.heap[wc.heap.size + 1]? = some (.cells #[.string s0, .int .i64 a0, .pointer pv, .pointer fv] 44 (0, 0)) ∧ Below wc.heap.size wc W0) := ⟨hsz, hP, B0⟩
            have HS : Hid (QRel S s0 a0 pv fv wc.heap.size (wc.heap.size + 1 + 1) len W0 (.int .i64 0) W0) := ⟨0, s0, a0, pv, fv, Nat.zero_le _, rfl, Below.refl _ _, hQ, rfl, fun _ => ⟨rfl, rfl, rfl⟩, fun h => by omega⟩
            clear hsz hQ hP B0
            go_loopw [28, 29] (fun i _ wr => QRel S s0 a0 pv fv wc.heap.size (wc.heap.size + 1 + 1) len W0 i wr) (fun i _ _ => len - (intOf i).toNat)
            case atStart => exact HS.out
            case round =>
              clear HS
              obtain ⟨k, qs, qa, qp, qf, g1, rfl, bq, hq, e1, e2, e3⟩ := hrel
              have E : Hid (qa = attA S a0 k ∧ (k = 0 → qs = s0 ∧ qp = pv ∧ qf = fv) ∧ (0 < k → qs = S (k - 1) ∧ qp = none ∧ qf = wantF S wc.heap.size (k - 1))) := ⟨e1, e2, e3⟩
              clear e1 e2 e3
              have ho : OwnStr w.heap.size wr ao len S := HO.out.two HW.out.2.2 bq
              by_cases hk : k < len
              · obtain ⟨q0, q1, q2, q3, qz⟩ := cells4 hq
                rcases ho with h | ⟨sb, rfl, hsb, sr⟩
                · omega
                have cs := sr.cell hk
                have hqs : wc.heap.size + 1 + 1 < wr.heap.size := by have h1 := bq.size; have h2 := HW.out.1; omega
                have HQ : Hid (wr.heap[wc.heap.size + 1 + 1]? = some (.cells #[.string qs, .int .i64 qa, .pointer qp, .pointer qf] 44 (0, 0))) := hq
                clear hq sr
                go_wp2
                all_goals
                  go_region_with (go_at_call 18; refine (next_any _ _ _ _ _ _ _).mono ?_; rintro e w9 ⟨rfl, hb9⟩; obtain ⟨z0, z1, z2, z3, zz⟩ := cells4 ((hb9.block (wc.heap.size + 1 + 1) (by exact hqs)).trans HQ.out))
                all_goals go_wp2
                all_goals
                  go_roundw
                  case rel => first | exact q_step (wr' := wr.drew) hk bq HQ.out rfl rfl rfl rfl hb9 E.out.1 (wantF_yes (show ((S k).toList == [70, 97, 105, 108, 101, 100]) = true by assumption)) _ rfl | exact q_step (wr' := wr.drew) hk bq HQ.out rfl rfl rfl rfl hb9 E.out.1 (wantF_no (show ((S k).toList == [70, 97, 105, 108, 101, 100]) = false by assumption)) _ rfl
                  case measure => simp [intOf]; omega
              · have dk2 : decide ((k : Int) < (len : Int)) = false := decide_eq_false (by omega)
                have HO2 : Hid (OwnStr w.heap.size wr ao len S) := ho
                have HQ : Hid (wr.heap[wc.heap.size + 1 + 1]? = some (.cells #[.string qs, .int .i64 qa, .pointer qp, .pointer qf] 44 (0, 0))) := hq
                obtain rfl : k = len := by omega
                clear hq ho hk g1
                go_wp2
                go_loop [30, 31] (fun r j => ∃ (m : Nat), m ≤ k ∧ j = .int .i64 (m : Int) ∧ ∃ R : Nat, R ≤ m ∧ r = .int .i64 (R : Int) ∧ attA S a0 m = wrap64 (a0 + R)) (fun _ j => k - (intOf j).toNat)
                case atStart => exact ⟨0, Nat.zero_le _, rfl, 0, Nat.le_refl _, rfl, by rw [show attA S a0 0 = a0 from rfl]; simpa using HA0.out.symm⟩
                case round =>
                  obtain ⟨m, g1, rfl, R, g2, rfl, g3⟩ := hrel
                  have G3 : Hid (attA S a0 m = wrap64 (a0 + R)) := g3
                  clear g3
                  by_cases hm : m < k
                  · rcases HO2.out with h | ⟨sb, rfl, hsb, sr⟩
                    · omega
                    have cs := sr.cell hm
                    clear sr
                    go_wp2
                    · have hy : ((S m).toList == [82, 117, 110, 110, 105, 110, 103]) = true := by assumption
                      go_round
                      case rel => exact ⟨m + 1, by omega, by go_num, R + 1, by omega, by go_num, att_yes G3.out hy⟩
                      case measure => simp [intOf]; omega
                    · have hy : ((S m).toList == [82, 117, 110, 110, 105, 110, 103]) = false := by assumption
                      go_round
                      case rel => exact ⟨m + 1, by omega, by go_num, R, by omega, rfl, att_no G3.out hy⟩
                      case measure => simp [intOf]; omega
                  · obtain rfl : m = k := by omega
                    have hq2 := HQ.out
                    rw [E.out.1, G3.out] at hq2
                    obtain ⟨x0, x1, x2, x3, xz⟩ := cells4 hq2
                    obtain ⟨y0, y1, y2, y3, yz⟩ := cells4 ((bq.block (wc.heap.size + 1) (by omega)).trans HW.out.2.1)
                    clear hq2 xz yz g1 g2 hm
                    have n36 := neqp Try.underlying36 Try.info38
                    have n39 := neqp Try.underlying39 Try.info41
                    have fin : Hid (Below w.heap.size w wr) := (Bd.trans (HW.out.2.2.mono Bd.size)).trans (bq.mono (by have := Bd.size; omega))
                    by_cases h0 : m = 0
                    · subst h0
                      obtain ⟨rfl, rfl, rfl⟩ := E.out.2.1 rfl
                      have hR : wrap64 (a0 + R) = a0 := by rw [← G3.out]; rfl
                      rw [hR] at x1
                      clear hR
                      have es := eqs
                      rcases HPV.out with rfl | ⟨X, rfl, hX⟩
                      · go_wp2
                        go_ret
                        exact ⟨rfl, fin.out⟩
                      · obtain ⟨p0, p1, p2, p3, pz⟩ := proc_cells hX HW.out.2.2 bq
                        clear hX pz
                        go_wp2
                        go_ret
                        exact ⟨rfl, fin.out⟩
                    · obtain ⟨f1, f2, f3⟩ := E.out.2.2 (by omega)
                      subst f1 f2 f3
                      rcases HO2.out with h | ⟨sb, rfl, hsb, sr⟩
                      · omega
                      have cs := sr.cell (show m - 1 < m by omega)
                      have hne : ((m : Int) == 0) = false := beq_eq_false_iff_ne.2 (by omega)
                      have e39 := eqlp Try.underlying39 Try.info41
                      clear sr
                      rcases HPV.out with rfl | ⟨X, rfl, hX⟩
                      · cases hy : ((S (m - 1)).toList == [70, 97, 105, 108, 101, 100])
                        · rw [← wantF_no hy] at x3
                          go_wp2
                          go_ret
                          exact ⟨rfl, fin.out⟩
                        · rw [← wantF_yes hy] at x3
                          go_wp2
                          go_ret
                          exact ⟨rfl, fin.out⟩
                      · obtain ⟨p0, p1, p2, p3, pz⟩ := proc_cells hX HW.out.2.2 bq
                        clear hX pz
                        cases hy : ((S (m - 1)).toList == [70, 97, 105, 108, 101, 100])
                        · rw [← wantF_no hy] at x3
                          go_wp2
                          go_ret
                          exact ⟨rfl, fin.out⟩
                        · rw [← wantF_yes hy] at x3
                          go_wp2
                          go_ret
                          exact ⟨rfl, fin.out⟩
end Go.Proofs.Qxb6602170a
