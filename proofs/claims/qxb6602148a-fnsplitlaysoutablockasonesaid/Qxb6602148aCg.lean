/-
  The graph is copied: 'zzCloneInts', 'zzCloneGraph'; the shim's calls.
-/
import Derived.Test.Qxb6602148aRg
attribute [local go_sem] Go.Proofs.Qxb6602148a.yTo Go.Proofs.Qxb6602148a.yUpon
namespace Go.Proofs.Qxb6602148a
open Go.RowKit
set_option linter.unusedVariables false
set_option linter.unusedSimpArgs false

theorem Fresh.set {w w' : World} {e : TypeId} {sz g n cap : Nat} {F : Nat → Value} (h : Fresh w w' e sz g n cap F) (j : Nat) (v : Value) : Fresh w (w'.setCell ⟨g, j, none⟩ v) e sz g n cap (fun t => if t = j then v else F t) := by
  have r := (h.rep (Rep.nil (fun _ => (e, sz)) w) 0 rfl).set put_bs j v
  have hr := r.row 0
  refine ⟨h.os, h.tape, h.output, by simpa [World.setCell] using h.size, fun k hk => ?_, h.ge, ?_⟩
  · rw [← h.old k hk]
    have := h.ge
    simp only [World.setCell, Array.getElem?_modify]
    rw [if_neg (by omega)]
  · have e1 : ((Fam.nil.put 0 (some g) n cap F).set 0 j v).F 0 = fun t => if t = j then v else F t := by
      funext t
      simp [Fam.set, Fam.put]
    rw [e1] at hr
    exact hr

def CIRel (w : World) (g d : Nat) (z : Nat → Int) (i : Value) (wr : World) : Prop := ∃ ii : Nat, i = .int .i64 (ii : Int) ∧ ii ≤ d ∧ Fresh w wr 3 1 g d d (fun j => if j < ii then .int .i64 (z j) else .int .i64 0)
def CIOut (w : World) (A : Option Addr) (d : Nat) (z : Nat → Int) (e : Ending) (w' : World) : Prop :=
  (A = none ∧ e = .returned (.slice none 0 0) ∧ w' = w) ∨ (∃ g, e = .returned (.slice (some ⟨g, 0, none⟩) d d) ∧ Fresh w w' 3 1 g d d (fun j => .int .i64 (z j)))

set_option maxHeartbeats 2000000 in
theorem cloneInts_calls (w : World) (A : Option Addr) (d C : Nat) (z : Nat → Int) (hnil : A = none → d = 0 ∧ C = 0) (hent : ∀ c, c < d → ∃ a', A = some a' ∧ w.cell? (a'.add c) = some (.int .i64 (z c))) (hC : d ≤ C) (hd : d ≤ 10000000) :
    Calls Try.prog 19 #[.slice A d C] w (CIOut w A d z) := by
  obtain ⟨i3, hi3, hz30, hz31, hz32⟩ := info_parts Try.info3
  have he := fun (a : Option Addr) (n c : Nat) (w : World) => Lib.run_eql_slice_nil (P := Try.prog) w 26 3 a n c 0 0 Try.underlying26
  cases A with
  | none =>
    obtain ⟨rfl, rfl⟩ := hnil rfl
    clear hnil hent hC hd
    go_enter Try.func19, Try.ntmps19
    go_wp2
    go_ret
    exact .inl ⟨rfl, rfl, rfl⟩
  | some a0 =>
    have HE : Hid (∀ c, c < d → ∃ a', some a0 = some a' ∧ w.cell? (a'.add c) = some (.int .i64 (z c))) := hent
    clear hnil hent
    go_enter Try.func19, Try.ntmps19
    go_wp2_with (at_make; refine wpList_make_row rfl (.tmp 8) (.tmp 8) 26 rfl 3 i3 (.int .i64 0) 1 8 (.int .i64 0) Try.underlying26 hi3 hz30 hz31 hz32 rfl (by decide) zero1 d _ _ rfl rfl rfl rfl (by omega) (by omega) ?_; intro w1 hF; have HF : Hid (Fresh w w1 3 1 w.heap.size d d (fun _ => .int .i64 0)) := hF; clear hF)
    go_loopw [4] (fun i wr => CIRel w w.heap.size d z i wr) (fun i _ => d - (intOf i).toNat)
    case atStart => exact ⟨0, rfl, Nat.zero_le _, HF.out.congr (fun j hj => by rw [if_neg (by omega)])⟩
    case round =>
      obtain ⟨ii, rfl, h1, hF⟩ := hrel
      by_cases hi : ii < d
      · obtain ⟨a', ha', hc⟩ := HE.out ii hi
        injection ha' with ha'
        subst ha'
        have hlt : (a0.add ii).block < w.heap.size := World.block_lt_of_cell? w _ hc
        have hc2 : wr.cell? (a0.add ii) = some (.int .i64 (z ii)) := by
          rw [← hc]
          unfold World.cell?
          rw [hF.old _ hlt]
        have hii : (ii : Int) < (d : Int) := by omega
        have cg := hF.cell (j := ii) (by omega)
        rw [if_neg (by omega)] at cg
        have fg := hF.frozen ii
        have fin : Hid (CIRel w w.heap.size d z (.int .i64 ((ii : Int) + 1)) (wr.setCell ⟨w.heap.size, ii, none⟩ (.int .i64 (z ii)))) := ⟨ii + 1, by simp, by omega, (hF.set ii (.int .i64 (z ii))).congr (fun j hj => by
          by_cases e : j = ii
          · subst e; simp
          · by_cases h2 : j < ii
            · simp [e, h2, show j < ii + 1 by omega]
            · simp [e, h2, show ¬ j < ii + 1 by omega])⟩
        clear hF hc hlt
        go_wp2
        go_roundw
        case rel => exact fin.out
        case measure => simp [intOf]; omega
      · have hii : ¬ (ii : Int) < (d : Int) := by omega
        have fin : Hid (Fresh w wr 3 1 w.heap.size d d (fun j => .int .i64 (z j))) := hF.congr (fun j hj => by rw [if_pos (by omega)])
        clear hF
        go_wp2
        go_ret
        exact .inr ⟨_, rfl, fin.out⟩

/-- The copied graph, its lists before v. -/
structure CGr (w0 : World) (n v : Nat) (d : Nat → Nat) (z : Nat → Nat → Int) (g : Nat) (N : Fam) (wr : World) : Prop where
  rep : Rep KG wr N
  grew : Grew Fam.nil w0 N wr
  b0 : N.b 0 = some g ∧ N.n 0 = n ∧ N.cap 0 = n
  F : ∀ r, r < v → N.F 0 r = N.val (1 + r)
  row : ∀ r, r < v → Ints N (1 + r) (d r) (z r)
theorem KG_r (r : Nat) : KG (1 + r) = (3, 1) := by unfold KG; rw [if_neg (by omega)]
theorem CGr.next {w0 wr w2 : World} {n v g : Nat} {d : Nat → Nat} {z : Nat → Nat → Int} {N : Fam} (h : CGr w0 n v d z g N wr) (hv : v < n) {A : Option Addr} {e : Ending} (hA : A = none → d v = 0) (ho : CIOut wr A (d v) (z v) e w2) :
    ∃ a4 k4, e = .returned (.slice a4 (d v) k4) ∧ (∃ vv, w2.cell? ⟨g, v, none⟩ = some vv) ∧ w2.frozen? ⟨g, v, none⟩ = false ∧ ∃ N', CGr w0 n (v + 1) d z g N' (w2.setCell ⟨g, v, none⟩ (.slice a4 (d v) k4)) := by
  have key : ∀ (b : Option Nat) (cap : Nat) (F : Nat → Value), Rep KG w2 (N.put (1 + v) b (d v) cap F) → Grew Fam.nil w0 (N.put (1 + v) b (d v) cap F) w2 → (∀ j, j < d v → F j = .int .i64 (z v j)) → (∃ vv, w2.cell? ⟨g, v, none⟩ = some vv) ∧ w2.frozen? ⟨g, v, none⟩ = false ∧ ∃ N', CGr w0 n (v + 1) d z g N' (w2.setCell ⟨g, v, none⟩ (.slice (Option.map (fun g => (⟨g, 0, none⟩ : Addr)) b) (d v) cap)) := by
    intro b cap F r gr hF
    have b0 : (N.put (1 + v) b (d v) cap F).b 0 = some g := (put_b (by omega)).trans h.b0.1
    refine ⟨⟨_, r.cell b0 (j := v) (by rw [put_n (by omega), h.b0.2.1]; show v < n * 1; omega)⟩, r.frozen b0 v, _, r.set b0 v _, gr.set ⟨0, b0⟩ _ _ _ _, ⟨by rw [set_b]; exact b0, by rw [set_n, put_n (by omega)]; exact h.b0.2.1, by rw [set_cap, put_cap (by omega)]; exact h.b0.2.2⟩, fun r' hr' => ?_, fun r' hr' => ?_⟩
    · rw [set_val]
      by_cases e : r' = v
      · subst e; rw [set_Fs, put_vals]
      · rw [set_Fj e, put_F (by omega), put_val (by omega)]; exact h.F r' (by omega)
    · by_cases e : r' = v
      · subst e
        exact Ints.set_ne ⟨put_ns, fun j hj => by rw [put_Fs]; exact hF j hj⟩ (by omega)
      · exact ((h.row r' (by omega)).put_ne (by omega)).set_ne (by omega)
  rcases ho with ⟨rfl, rfl, rfl⟩ | ⟨g', rfl, hF⟩
  · have d0 := hA rfl
    have k := key none 0 (fun _ => undef) (by rw [d0]; exact h.rep.drop (1 + v) _) (by rw [d0]; exact h.grew.put (.inr rfl)) (fun j hj => by omega)
    rw [d0] at k ⊢
    exact ⟨none, 0, rfl, k⟩
  · exact ⟨some ⟨g', 0, none⟩, d v, rfl, key (some g') (d v) _ (hF.rep h.rep (1 + v) (KG_r v)) (h.grew.trans (hF.grew N (1 + v))) (fun j hj => rfl)⟩

def CGRel (w0 : World) (n : Nat) (d : Nat → Nat) (z : Nat → Nat → Int) (g : Nat) (i : Value) (wr : World) : Prop := ∃ ii : Nat, i = .int .i64 (ii : Int) ∧ ii ≤ n ∧ ∃ N, CGr w0 n ii d z g N wr
def CGOut (w : World) (n : Nat) (d : Nat → Nat) (z : Nat → Nat → Int) (e : Ending) (w' : World) : Prop := ∃ N a' k', e = .returned (.slice a' n k') ∧ GM w' N (rgG n d z) a' k' ∧ Grew Fam.nil w N w'

set_option maxHeartbeats 4000000 in
theorem cloneGraph_calls (w : World) (a : Option Addr) (n k : Nat) (A : Nat → Option Addr) (d C : Nat → Nat) (z : Nat → Nat → Int) (h : RG w a n A d C z) (hk : a = none → n = 0 ∧ k = 0) (hn : n ≤ 4096) (hd : ∀ r, r < n → d r ≤ 131072) (hz : ∀ r c, r < n → c < d r → 0 ≤ z r c) :
    Calls Try.prog 9 #[.slice a n k] w (CGOut w n d z) := by
  obtain ⟨i26, hi26, hz260, hz261, hz262⟩ := info_parts Try.info26
  have he := fun (a : Option Addr) (n c : Nat) (w : World) => Lib.run_eql_slice_nil (P := Try.prog) w 22 26 a n c 0 0 Try.underlying22
  cases a with
  | none =>
    obtain ⟨rfl, rfl⟩ := hk rfl
    clear hk h hn hd hz
    go_enter Try.func9, Try.ntmps9
    go_wp2
    go_ret
    exact ⟨Fam.nil, none, 0, rfl, ⟨Rep.nil _ _, rfl, rfl, fun v hv => absurd hv (Nat.not_lt_zero _), fun v hv => absurd hv (Nat.not_lt_zero _)⟩, Grew.refl _ _⟩
  | some ad =>
    have HG : Hid (RG w (some ad) n A d C z) := h
    have HD : Hid (∀ r, r < n → d r ≤ 131072) := hd
    have HZ : Hid (∀ r c, r < n → c < d r → 0 ≤ z r c) := hz
    clear hk h hd hz
    go_enter Try.func9, Try.ntmps9
    go_wp2_with (at_make; refine wpList_make_row rfl (.tmp 8) (.tmp 8) 22 rfl 26 i26 (.slice none 0 0) 1 24 (.slice none 0 0) Try.underlying22 hi26 hz260 hz261 hz262 rfl (by decide) zeroS n _ _ rfl rfl rfl rfl (by omega) (by omega) ?_; intro w1 hF; have HF : Hid (Fresh w w1 26 1 w.heap.size n n (fun _ => .slice none 0 0)) := hF; clear hF)
    go_loopw [4] (fun i wr => CGRel w n d z w.heap.size i wr) (fun i _ => n - (intOf i).toNat)
    case atStart => exact ⟨0, rfl, Nat.zero_le _, _, HF.out.rep (Rep.nil KG w) 0 rfl, HF.out.grew Fam.nil 0, ⟨put_bs, put_ns, by simp [Fam.put]⟩, fun r hr => by omega, fun r hr => by omega⟩
    case round =>
      obtain ⟨ii, rfl, h1, N, hN⟩ := hrel
      by_cases hi : ii < n
      · obtain ⟨ad', had, hc⟩ := HG.out.hd ii hi
        injection had with had
        subst had
        have hlt : (ad.add ii).block < w.heap.size := World.block_lt_of_cell? w _ hc
        have old : ∀ b, b < w.heap.size → wr.heap[b]? = w.heap[b]? := fun b hb => hN.grew.block b hb (fun i e => by cases e)
        have hc2 : wr.cell? (ad.add ii) = some (.slice (A ii) (d ii) (C ii)) := by
          rw [← hc]
          unfold World.cell?
          rw [old _ hlt]
        have hii : (ii : Int) < (n : Int) := by omega
        have hcall := cloneInts_calls wr (A ii) (d ii) (C ii) (z ii) (HG.out.nil ii hi) (fun c hc3 => by
          obtain ⟨a', e1, e2⟩ := HG.out.ent ii c hi hc3
          refine ⟨a', e1, ?_⟩
          have hl2 : (a'.add c).block < w.heap.size := World.block_lt_of_cell? w _ e2
          rw [← e2]
          unfold World.cell?
          rw [old _ hl2]) (HG.out.dn ii hi).1 (by have := HD.out ii hi; omega)
        have HCall : Hid (Calls Try.prog 19 #[.slice (A ii) (d ii) (C ii)] wr fun e w2 => ∃ a4 k4, e = .returned (.slice a4 (d ii) k4) ∧ (∃ vv, w2.cell? ⟨w.heap.size, ii, none⟩ = some vv) ∧ w2.frozen? ⟨w.heap.size, ii, none⟩ = false ∧ ∃ N', CGr w n (ii + 1) d z w.heap.size N' (w2.setCell ⟨w.heap.size, ii, none⟩ (.slice a4 (d ii) k4))) := by
          refine hcall.mono ?_
          intro e w2 ho
          exact hN.next hi (fun hA => (HG.out.nil ii hi hA).1) ho
        clear hcall hN hc hlt old
        generalize A ii = ai at *
        generalize C ii = ci at *
        go_wp2_with (go_at_call 19; refine HCall.out.mono ?_; rintro e w2 ⟨a4, k4, rfl, ⟨vv, c4⟩, f4, hfin⟩; have HFin : Hid (∃ N', CGr w n (ii + 1) d z w.heap.size N' (w2.setCell ⟨w.heap.size, ii, none⟩ (.slice a4 (d ii) k4))) := hfin; clear hfin)
        go_roundw
        case rel => exact ⟨ii + 1, by simp, by omega, HFin.out⟩
        case measure => simp [intOf]; omega
      · have hii : ¬ (ii : Int) < (n : Int) := by omega
        have hin : ii = n := by omega
        have fin : Hid (CGOut w n d z (.returned (.slice (some ⟨w.heap.size, 0, none⟩) n n)) wr) := by
          refine ⟨N, _, _, rfl, ⟨hN.rep, by rw [val_some hN.b0.1, hN.b0.2.1, hN.b0.2.2]; rfl, hN.b0.2.1, fun v hv => hN.F v (by rw [hin]; exact hv), fun v hv => ?_⟩, hN.grew⟩
          have hr := hN.row v (by rw [hin]; exact hv)
          refine ⟨hr.1, fun j hj => ?_⟩
          rw [hr.2 j hj]
          have := HZ.out v j hv hj
          show Value.int .i64 (z v j) = .int .i64 (((z v j).toNat : Nat) : Int)
          rw [Int.toNat_of_nonneg this]
        clear hN hin
        go_wp2
        go_ret
        exact fin.out

/-- The shim. -/
theorem zzNew_calls (w : World) (N : Fam) (G : GR) (a0 : Option Addr) (k0 : Nat) (hG : GM w N G a0 k0) (ok : G.Ok) :
    Calls Try.prog 11 #[.slice a0 G.n k0] w fun e w' => ∃ p, e = .returned (.pointer (some ⟨p, 0, none⟩)) ∧ NDone w G p w' := by
  have HC : Hid (Calls Try.prog 26 #[.slice a0 G.n k0] w fun e w' => ∃ p, e = .returned (.pointer (some ⟨p, 0, none⟩)) ∧ NDone w G p w') := newP_calls w N G a0 k0 hG ok
  clear hG ok
  go_enter Try.func11, Try.ntmps11
  go_wp2_with (go_at_call 26; refine HC.out.mono ?_; rintro e w' ⟨p, rfl, hd⟩; have HD : Hid (NDone w G p w') := hd; clear hd)
  go_ret
  exact ⟨p, rfl, HD.out⟩
theorem zzDivide_calls (w : World) (p c : Nat) (R : World → Prop) (h : Calls Try.prog 28 #[.pointer (some ⟨p, 0, none⟩), .int .i64 (c : Int)] w fun e w' => e = .returned (.tuple #[]) ∧ R w') :
    Calls Try.prog 16 #[.pointer (some ⟨p, 0, none⟩), .int .i64 (c : Int)] w fun e w' => e = .returned (.tuple #[]) ∧ R w' := by
  have HC : Hid (Calls Try.prog 28 #[.pointer (some ⟨p, 0, none⟩), .int .i64 (c : Int)] w fun e w' => e = .returned (.tuple #[]) ∧ R w') := h
  clear h
  go_enter Try.func16, Try.ntmps16
  go_wp2_with (go_at_call 28; refine HC.out.mono ?_; rintro e w' ⟨rfl, hd⟩; have HD : Hid (R w') := hd; clear hd)
  go_end0
  exact ⟨rfl, HD.out⟩
theorem zzSplit_calls (w : World) (p : Nat) (a : Option Addr) (n k : Nat) (R : World → Prop) (h : Calls Try.prog 29 #[.pointer (some ⟨p, 0, none⟩), .slice a n k] w fun e w' => e = .returned (.tuple #[]) ∧ R w') :
    Calls Try.prog 21 #[.pointer (some ⟨p, 0, none⟩), .slice a n k] w fun e w' => e = .returned (.tuple #[]) ∧ R w' := by
  have HC : Hid (Calls Try.prog 29 #[.pointer (some ⟨p, 0, none⟩), .slice a n k] w fun e w' => e = .returned (.tuple #[]) ∧ R w') := h
  clear h
  go_enter Try.func21, Try.ntmps21
  go_wp2_with (go_at_call 29; refine HC.out.mono ?_; rintro e w' ⟨rfl, hd⟩; have HD : Hid (R w') := hd; clear hd)
  go_end0
  exact ⟨rfl, HD.out⟩
end Go.Proofs.Qxb6602148a
