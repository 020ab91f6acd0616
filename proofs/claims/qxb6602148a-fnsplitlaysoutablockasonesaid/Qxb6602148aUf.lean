/-
  UNION-FIND: plainly, and 'zzFind', 'zzUnite'.
-/
import Derived.Test.Qxb6602148aCg
attribute [local go_sem] Go.Proofs.Qxb6602148a.yTo Go.Proofs.Qxb6602148a.yUpon
namespace Go.Proofs.Qxb6602148a
open Go.RowKit
set_option linter.unusedVariables false
set_option linter.unusedSimpArgs false

/-- par: each node's parent; rt: its root; dp: a height. -/
structure UF (n : Nat) (par rt dp : Nat → Nat) : Prop where
  lt : ∀ v, v < n → par v < n
  pu : ∀ v, v < n → par v ≠ v → rt (par v) = rt v ∧ dp (par v) < dp v
  rtp : ∀ v, v < n → par v = v → rt v = v
  rlt : ∀ v, v < n → rt v < n
  rr : ∀ v, v < n → par (rt v) = rt v
theorem UF.init (n : Nat) : UF n (fun v => v) (fun v => v) (fun _ => 0) := ⟨fun v h => h, fun v _ h => absurd rfl h, fun v _ _ => rfl, fun v h => h, fun v _ => rfl⟩
theorem UF.halve {n : Nat} {par rt dp : Nat → Nat} (h : UF n par rt dp) {v : Nat} (hv : v < n) (hne : par v ≠ v) : UF n (up par v (par (par v))) rt dp := by
  have h1 := h.lt v hv
  have h2 := h.pu v hv hne
  have h3 : rt (par (par v)) = rt v ∧ dp (par (par v)) < dp v := by
    by_cases e : par (par v) = par v
    · rw [e]; exact h2
    · have := h.pu (par v) h1 e
      exact ⟨this.1.trans h2.1, by omega⟩
  have rne : ∀ u, u < n → rt u ≠ v := fun u hu e => by
    have := h.rr u hu
    rw [e] at this
    exact hne this
  refine ⟨fun u hu => ?_, fun u hu hn => ?_, fun u hu hn => ?_, h.rlt, fun u hu => ?_⟩
  · by_cases e : u = v
    · subst e; rw [up_same]; exact h.lt _ h1
    · rw [up_other _ _ e]; exact h.lt u hu
  · by_cases e : u = v
    · subst e; rw [up_same]; exact h3
    · rw [up_other _ _ e] at hn ⊢; exact h.pu u hu hn
  · by_cases e : u = v
    · subst e
      rw [up_same] at hn
      have := h3.2
      rw [hn] at this
      omega
    · rw [up_other _ _ e] at hn; exact h.rtp u hu hn
  · rw [up_other _ _ (rne u hu)]; exact h.rr u hu
theorem UF.join {n : Nat} {par rt dp : Nat → Nat} (h : UF n par rt dp) {a b : Nat} (ha : a < n) (hb : b < n) (hne : rt a ≠ rt b) : UF n (up par (rt a) (rt b)) (fun v => if rt v = rt a then rt b else rt v) (fun v => if rt v = rt a then dp v + dp (rt b) + 1 else dp v) := by
  have rra := h.rr a ha
  have rrb := h.rr b hb
  have rla := h.rlt a ha
  have rlb := h.rlt b hb
  have rta := h.rtp _ rla rra
  have rtb := h.rtp _ rlb rrb
  refine ⟨fun u hu => ?_, fun u hu hn => ?_, fun u hu hn => ?_, fun u hu => ?_, fun u hu => ?_⟩
  · by_cases e : u = rt a
    · subst e; rw [up_same]; exact rlb
    · rw [up_other _ _ e]; exact h.lt u hu
  · by_cases e : u = rt a
    · subst e
      rw [up_same]
      simp only [rta, rtb, if_true, if_neg (Ne.symm hne)]
      exact ⟨trivial, by omega⟩
    · rw [up_other _ _ e] at hn ⊢
      obtain ⟨h1, h2⟩ := h.pu u hu hn
      simp only [h1]
      refine ⟨trivial, ?_⟩
      by_cases e2 : rt u = rt a
      · rw [if_pos e2, if_pos e2]; omega
      · rw [if_neg e2, if_neg e2]; exact h2
  · by_cases e : u = rt a
    · subst e; rw [up_same] at hn; exact absurd hn.symm hne
    · rw [up_other _ _ e] at hn
      have h1 := h.rtp u hu hn
      show (if rt u = rt a then rt b else rt u) = u
      rw [h1, if_neg e]
  · show (if rt u = rt a then rt b else rt u) < n
    split
    · exact rlb
    · exact h.rlt u hu
  · show up par (rt a) (rt b) (if rt u = rt a then rt b else rt u) = if rt u = rt a then rt b else rt u
    by_cases e : rt u = rt a
    · rw [if_pos e, up_other _ _ (Ne.symm hne)]; exact rrb
    · rw [if_neg e, up_other _ _ e]; exact h.rr u hu

/-- M' parts from M in row r alone, and there by what its cells hold. -/
structure But (r : Nat) (M M' : Fam) : Prop where
  b : M'.b = M.b
  n : M'.n = M.n
  cap : M'.cap = M.cap
  F : ∀ i, i ≠ r → M'.F i = M.F i
theorem But.refl (r : Nat) (M : Fam) : But r M M := ⟨rfl, rfl, rfl, fun _ _ => rfl⟩
theorem But.trans {r : Nat} {M M' M'' : Fam} (h : But r M M') (h' : But r M' M'') : But r M M'' := ⟨h'.b.trans h.b, h'.n.trans h.n, h'.cap.trans h.cap, fun i hi => (h'.F i hi).trans (h.F i hi)⟩
theorem But.set {r : Nat} {M M' : Fam} (h : But r M M') (j : Nat) (v : Value) : But r M (M'.set r j v) := ⟨h.b, h.n, h.cap, fun i hi => by funext t; rw [set_F _ hi]; exact congrFun (h.F i hi) t⟩
theorem But.val {r : Nat} {M M' : Fam} (h : But r M M') (i : Nat) : M'.val i = M.val i := by unfold Fam.val; rw [h.b, h.n, h.cap]
theorem But.ints {r : Nat} {M M' : Fam} (h : But r M M') {i n : Nat} {f : Nat → Int} (hi : i ≠ r) (hs : Ints M i n f) : Ints M' i n f := ⟨by rw [h.n]; exact hs.1, fun j hj => by rw [h.F i hi]; exact hs.2 j hj⟩

theorem Ints.cell' {K : Nat → TypeId × Nat} {w : World} {M : Fam} {i n g : Nat} {f : Nat → Int} (h : Ints M i n f) (hR : Rep K w M) (hg : M.b i = some g) (hK : K i = (3, 1)) {j : Nat} (hj : j < n) : w.cell? ⟨g, j, none⟩ = some (.int .i64 (f j)) := by
  rw [hR.cell hg (by rw [h.1, hK]; show j < n * 1; omega), h.2 j hj]

/-- The row 'parent', wherever it stands. -/
def UFin (K : Nat → TypeId × Nat) (M0 : Fam) (w0 : World) (M : Fam) (r n : Nat) (rt dp : Nat → Nat) (w' : World) : Prop :=
  ∃ M' par, Rep K w' M' ∧ But r M M' ∧ Ints M' r n (fun v => ((par v : Nat) : Int)) ∧ UF n par rt dp ∧ Grew M0 w0 M' w'

def FRel (K : Nat → TypeId × Nat) (M0 : Fam) (w0 : World) (M : Fam) (r n : Nat) (rt dp : Nat → Nat) (R : Nat) (v : Value) (wr : World) : Prop := ∃ u : Nat, v = .int .i64 (u : Int) ∧ u < n ∧ rt u = R ∧ UFin K M0 w0 M r n rt dp wr

set_option maxHeartbeats 4000000 in
theorem find_calls (K : Nat → TypeId × Nat) (M0 : Fam) (w0 w : World) (M : Fam) (r n v g : Nat) (rt dp : Nat → Nat) (hK : K r = (3, 1)) (hb : M.b r = some g) (hv : v < n) (hn : n ≤ 1000000) (h : UFin K M0 w0 M r n rt dp w) :
    Calls Try.prog 25 #[.slice (some ⟨g, 0, none⟩) n (M.cap r), .int .i64 (v : Int)] w fun e w' => e = .returned (.int .i64 ((rt v : Nat) : Int)) ∧ UFin K M0 w0 M r n rt dp w' := by
  have lc : n ≤ M.cap r := by
    obtain ⟨M', par, hR, hB, hI, _⟩ := h
    have := hR.le_cap r
    rw [hI.1, hB.cap] at this
    exact this
  have HH : Hid (FRel K M0 w0 M r n rt dp (rt v) (.int .i64 (v : Int)) w) := ⟨v, rfl, hv, rfl, h⟩
  have HB : Hid (M.b r = some g) := hb
  have HK : Hid (K r = (3, 1)) := hK
  generalize rt v = R at *
  clear h hb hK
  generalize M.cap r = kk at *
  go_enter Try.func25, Try.ntmps25
  go_wp2
  go_loopw [1] (fun x wr => FRel K M0 w0 M r n rt dp R x wr) (fun x _ => dp (intOf x).toNat)
  case atStart => exact HH.out
  case round =>
    clear HH
    obtain ⟨u, rfl, hu, hru, M', par, hR, hB, hI, hU, hG⟩ := hrel
    have b' : M'.b r = some g := by rw [hB.b]; exact HB.out
    have c1 := hI.cell' hR b' HK.out hu
    have l1 := hU.lt u hu
    have hui : (u : Int) < (n : Int) := by omega
    by_cases hp : par u = u
    · have e1 := hU.rtp u hu hp
      rw [hp] at c1
      have fin : Hid (UFin K M0 w0 M r n rt dp wr) := ⟨M', par, hR, hB, hI, hU, hG⟩
      have HRU : Hid (R = u) := hru.symm.trans e1
      clear hR hB hI hU hG hru e1 hp b'
      go_wp2
      go_ret
      exact ⟨by rw [HRU.out]; rfl, fin.out⟩
    · have c2 := hI.cell' hR b' HK.out l1
      have l2 := hU.lt _ l1
      have f1 := hR.frozen b' u
      obtain ⟨k1, k2⟩ := hU.pu u hu hp
      have hU2 := hU.halve hu hp
      have k3 : rt (par (par u)) = R := by
        by_cases e : par (par u) = par u
        · rw [e, k1]; exact hru
        · rw [(hU.pu _ l1 e).1, k1]; exact hru
      have k4 : dp (par (par u)) < dp u := by
        by_cases e : par (par u) = par u
        · rw [e]; exact k2
        · have := (hU.pu _ l1 e).2; omega
      have fin : Hid (FRel K M0 w0 M r n rt dp R (.int .i64 ((par (par u) : Nat) : Int)) (wr.setCell ⟨g, u, none⟩ (.int .i64 ((par (par u) : Nat) : Int)))) := by
        refine ⟨par (par u), rfl, l2, k3, _, _, hR.set b' u _, hB.set u _, ?_, hU2, hG.set ⟨r, b'⟩ _ _ _ _⟩
        have := hI.set (j := u) (x := ((par (par u) : Nat) : Int))
        rw [upd_cast] at this
        exact this
      have hne : ¬ ((par u : Nat) : Int) = (u : Int) := by omega
      have hpi : ((par u : Nat) : Int) < (n : Int) := by omega
      clear hR hB hI hU hG hU2 b' k1 k2 k3 hru
      generalize par (par u) = pp at *
      generalize par u = pu at *
      go_wp2
      go_roundw
      case rel => exact fin.out
      case measure => simp [intOf]; omega

/-- What 'zzUnite' makes of the roots. -/
def jrt (rt : Nat → Nat) (a b : Nat) : Nat → Nat := fun v => if rt v = rt a then rt b else rt v

set_option maxHeartbeats 4000000 in
theorem unite_calls (K : Nat → TypeId × Nat) (M0 : Fam) (w0 w : World) (M : Fam) (r n a b g : Nat) (rt dp : Nat → Nat) (hK : K r = (3, 1)) (hb : M.b r = some g) (ha : a < n) (hb2 : b < n) (hn : n ≤ 1000000) (h : UFin K M0 w0 M r n rt dp w) :
    Calls Try.prog 24 #[.slice (some ⟨g, 0, none⟩) n (M.cap r), .int .i64 (a : Int), .int .i64 (b : Int)] w fun e w' => e = .returned (.tuple #[]) ∧ ∃ dp', UFin K M0 w0 M r n (jrt rt a b) dp' w' := by
  have lc : n ≤ M.cap r := by
    obtain ⟨M', par, hR, hB, hI, _⟩ := h
    have := hR.le_cap r
    rw [hI.1, hB.cap] at this
    exact this
  have rla : rt a < n := by obtain ⟨M', par, hR, hB, hI, hU, hG⟩ := h; exact hU.rlt a ha
  have HC1 : Hid (Calls Try.prog 25 #[.slice (some ⟨g, 0, none⟩) n (M.cap r), .int .i64 (a : Int)] w fun e w' => e = .returned (.int .i64 ((rt a : Nat) : Int)) ∧ UFin K M0 w0 M r n rt dp w') := find_calls K M0 w0 w M r n a g rt dp hK hb ha hn h
  have HC2 : Hid (∀ w1, UFin K M0 w0 M r n rt dp w1 → Calls Try.prog 25 #[.slice (some ⟨g, 0, none⟩) n (M.cap r), .int .i64 (b : Int)] w1 fun e w' => e = .returned (.int .i64 ((rt b : Nat) : Int)) ∧ UFin K M0 w0 M r n rt dp w') := fun w1 h1 => find_calls K M0 w0 w1 M r n b g rt dp hK hb hb2 hn h1
  have fin1 : Hid (rt a = rt b → ∀ w1, UFin K M0 w0 M r n rt dp w1 → ∃ dp', UFin K M0 w0 M r n (jrt rt a b) dp' w1) := by
    intro e w1 h1
    have : jrt rt a b = rt := by
      funext v
      unfold jrt
      split
      · next h2 => rw [h2, e]
      · rfl
    rw [this]; exact ⟨dp, h1⟩
  have fin2 : Hid (rt a ≠ rt b → ∀ w1, UFin K M0 w0 M r n rt dp w1 → (∃ vv, w1.cell? ⟨g, rt a, none⟩ = some vv) ∧ w1.frozen? ⟨g, rt a, none⟩ = false ∧ ∃ dp', UFin K M0 w0 M r n (jrt rt a b) dp' (w1.setCell ⟨g, rt a, none⟩ (.int .i64 ((rt b : Nat) : Int)))) := by
    rintro e w1 ⟨M', par, hR, hB, hI, hU, hG⟩
    have b' : M'.b r = some g := by rw [hB.b]; exact hb
    refine ⟨⟨_, hI.cell' hR b' hK rla⟩, hR.frozen b' _, _, _, _, hR.set b' (rt a) _, hB.set _ _, ?_, hU.join ha hb2 e, hG.set ⟨r, b'⟩ _ _ _ _⟩
    have := hI.set (j := rt a) (x := ((rt b : Nat) : Int))
    rw [upd_cast] at this
    exact this
  clear h hb hK
  generalize M.cap r = kk at *
  generalize hra : rt a = ra at *
  generalize hrb : rt b = rb at *
  clear hra hrb
  have hri : (ra : Int) < (n : Int) := by omega
  by_cases e : ra = rb
  · subst e
    go_enter Try.func24, Try.ntmps24
    go_wp2_with (first
      | (go_at_call 25; refine HC1.out.mono ?_; rintro e w1 ⟨rfl, h1⟩; have HU1 : Hid (UFin K M0 w0 M r n rt dp w1) := h1; clear h1 HC1)
      | (go_at_call 25; refine (HC2.out w1 HU1.out).mono ?_; rintro e w2 ⟨rfl, h2⟩; have HU2 : Hid (UFin K M0 w0 M r n rt dp w2) := h2; clear h2 HC2))
    go_end0
    exact ⟨rfl, fin1.out trivial w2 HU2.out⟩
  · have hne : ¬ (ra : Int) = (rb : Int) := by omega
    go_enter Try.func24, Try.ntmps24
    go_wp2_with (first
      | (go_at_call 25; refine HC1.out.mono ?_; rintro e w1 ⟨rfl, h1⟩; have HU1 : Hid (UFin K M0 w0 M r n rt dp w1) := h1; clear h1 HC1)
      | (go_at_call 25; refine (HC2.out w1 HU1.out).mono ?_; rintro e w2 ⟨rfl, h2⟩; obtain ⟨⟨vv, c1⟩, c2, c3⟩ := fin2.out e w2 h2; have HU2 : Hid (∃ dp', UFin K M0 w0 M r n (jrt rt a b) dp' (w2.setCell ⟨g, ra, none⟩ (.int .i64 ((rb : Nat) : Int)))) := c3; clear h2 HC2 c3))
    go_end0
    exact ⟨rfl, HU2.out⟩
end Go.Proofs.Qxb6602148a
