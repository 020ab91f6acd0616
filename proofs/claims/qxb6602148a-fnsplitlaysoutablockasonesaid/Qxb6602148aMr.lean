/-
  PLAIN: edges grouped by strong component.
-/
import Derived.Test.Qxb6602148aMdf
attribute [local go_sem] Go.Proofs.Qxb6602148a.yTo Go.Proofs.Qxb6602148a.yUpon
namespace Go.Proofs.Qxb6602148a
set_option linter.unusedVariables false
set_option linter.unusedSimpArgs false

/-- r is the first node of v's strong component, by the table R. -/
structure Rpp (R : Nat → Nat → Bool) (v r : Nat) : Prop where
  le : r ≤ v
  sc : r = v ∨ (R r v = true ∧ R v r = true)
  no : ∀ u, u < r → ¬ (R u v = true ∧ R v u = true)
def GR.sc (G : GR) (a b : Nat) : Prop := Rch G.adj a b ∧ Rch G.adj b a
theorem GR.sc_refl (G : GR) (a : Nat) : G.sc a a := ⟨Rch.refl _ _, Rch.refl _ _⟩
theorem GR.sc_symm {G : GR} {a b : Nat} (h : G.sc a b) : G.sc b a := ⟨h.2, h.1⟩
theorem GR.sc_trans {G : GR} {a b c : Nat} (h : G.sc a b) (h' : G.sc b c) : G.sc a c := ⟨h.1.trans h'.1, h'.2.trans h.2⟩
theorem Rpp.scc {G : GR} {R : Nat → Nat → Bool} (hR : RS G G.n R) {v r : Nat} (hv : v < G.n) (h : Rpp R v r) : G.sc r v := by
  have := h.le
  rcases h.sc with h1 | ⟨h1, h2⟩
  · subst h1; exact G.sc_refl _
  · exact ⟨(hR.old r v (by omega) hv).1 h1, (hR.old v r hv (by omega)).1 h2⟩
theorem Rpp.eq_iff {G : GR} {R : Nat → Nat → Bool} (hR : RS G G.n R) {v v' r r' : Nat} (hv : v < G.n) (hv' : v' < G.n) (h : Rpp R v r) (h' : Rpp R v' r') : r = r' ↔ G.sc v v' := by
  have l1 := h.le
  have l2 := h'.le
  constructor
  · intro e
    subst e
    exact GR.sc_trans (GR.sc_symm (h.scc hR hv)) (h'.scc hR hv')
  · intro hs
    have key : ∀ {a b : Nat}, a < G.n → b < G.n → G.sc a b → R a b = true ∧ R b a = true := fun ha hb s => ⟨(hR.old _ _ ha hb).2 s.1, (hR.old _ _ hb ha).2 s.2⟩
    rcases Nat.lt_trichotomy r r' with c | c | c
    · exact absurd (key (by omega) hv' (GR.sc_trans (h.scc hR hv) hs)) (h'.no r c)
    · exact c
    · exact absurd (key (by omega) hv (GR.sc_trans (h'.scc hR hv') (GR.sc_symm hs))) (h.no r' c)

/-- Edges before e that lie on a cycle. -/
def Sb (G : GR) (R : Nat → Nat → Bool) (e f : Nat) : Prop := f < e ∧ G.ocb R f = true
def Rl0 (G : GR) (f f' : Nat) : Prop := G.sc (G.sr f) (G.sr f')
structure GP (G : GR) (R : Nat → Nat → Bool) (e : Nat) (gof : Nat → Int) (nc : Nat) (cn : Nat → Nat) (cl : Nat → Nat → Nat) : Prop where
  pt : PT (Sb G R e) (Rl0 G) nc cn cl
  g1 : ∀ i j r, i < nc → j < cn i → Rpp R (G.sr (cl i j)) r → gof r = ((i : Nat) : Int)
  g2 : ∀ r, r < G.n → gof r = -1 ∨ ∃ i j, i < nc ∧ j < cn i ∧ Rpp R (G.sr (cl i j)) r ∧ gof r = ((i : Nat) : Int)
section
variable {G : GR} {R : Nat → Nat → Bool} {e : Nat} {gof : Nat → Int} {nc : Nat} {cn : Nat → Nat} {cl : Nat → Nat → Nat}
theorem GP.start (G : GR) (R : Nat → Nat → Bool) : GP G R 0 (fun _ => -1) 0 (fun _ => 0) (fun _ _ => 0) :=
  ⟨PT.nil (fun f h => absurd h.1 (Nat.not_lt_zero _)) _ _ _, fun i j r h => absurd h (Nat.not_lt_zero _), fun r hr => .inl rfl⟩
theorem GP.skip (h : GP G R e gof nc cn cl) (ho : G.ocb R e = false) : GP G R (e + 1) gof nc cn cl := by
  refine ⟨h.pt.congr (fun f => ?_) (fun _ _ _ _ => Iff.rfl), h.g1, h.g2⟩
  constructor
  · rintro ⟨h1, h2⟩; exact ⟨by omega, h2⟩
  · rintro ⟨h1, h2⟩
    refine ⟨?_, h2⟩
    rcases Nat.lt_or_ge f e with h3 | h3
    · exact h3
    · obtain rfl : f = e := by omega
      rw [ho] at h2; cases h2
theorem Sb_succ (ho : G.ocb R e = true) (f : Nat) : Sb G R (e + 1) f ↔ Sb G R e f ∨ f = e := by
  unfold Sb
  constructor
  · rintro ⟨h1, h2⟩
    by_cases ef : f = e
    · exact .inr ef
    · exact .inl ⟨by omega, h2⟩
  · rintro (⟨h1, h2⟩ | rfl)
    · exact ⟨by omega, h2⟩
    · exact ⟨by omega, ho⟩
theorem GP.fresh (hR : RS G G.n R) (h : GP G R e gof nc cn cl) (hE : e < G.E) (ho : G.ocb R e = true) {r : Nat} (hr : Rpp R (G.sr e) r) (hg : gof r = -1) : GP G R (e + 1) (upd gof r ((nc : Nat) : Int)) (nc + 1) (up cn nc 1) (upl cl nc 0 e) := by
  have le := G.sr_lt hE
  have lr := hr.le
  have hnot : ∀ g, Sb G R e g → ¬ Rl0 G e g := by
    intro g hg2 hrel
    obtain ⟨i, j, hi, hj, rfl⟩ := h.pt.ex g hg2
    have lg : G.sr (cl i j) < G.n := G.sr_lt (by have := hg2.1; omega)
    have hrp : Rpp R (G.sr (cl i j)) r := by
      refine ⟨?_, ?_, fun u hu hc => ?_⟩
      · rcases Nat.lt_or_ge (G.sr (cl i j)) r with c | c
        · refine absurd ?_ (hr.no _ c)
          exact ⟨(hR.old _ _ lg le).2 hrel.2, (hR.old _ _ le lg).2 hrel.1⟩
        · exact c
      · have s := GR.sc_trans (hr.scc hR le) hrel
        exact .inr ⟨(hR.old _ _ (by omega) lg).2 s.1, (hR.old _ _ lg (by omega)).2 s.2⟩
      · refine hr.no u hu ?_
        have lu : u < G.n := by omega
        have s : G.sc u (G.sr (cl i j)) := ⟨(hR.old _ _ lu lg).1 hc.1, (hR.old _ _ lg lu).1 hc.2⟩
        have s2 := GR.sc_trans s (GR.sc_symm hrel)
        exact ⟨(hR.old _ _ lu le).2 s2.1, (hR.old _ _ le lu).2 s2.2⟩
    have := h.g1 i j r hi hj hrp
    rw [hg] at this
    omega
  refine ⟨h.pt.fresh (fun h1 => absurd h1.1 (Nat.lt_irrefl _)) (Sb_succ ho) hnot (G.sc_refl _) (fun a b _ _ h1 => GR.sc_symm h1), fun i j r' hi hj hrp => ?_, fun r' hr' => ?_⟩
  · by_cases ei : i = nc
    · subst ei
      rw [up_same] at hj
      obtain rfl : j = 0 := by omega
      rw [upl_same, up_same] at hrp
      have : r' = r := (Rpp.eq_iff hR le le hrp hr).2 (G.sc_refl _)
      rw [this, upd_same]
    · rw [up_other _ _ ei] at hj
      rw [upl_other _ _ _ ei] at hrp
      have h1 := h.g1 i j r' (by omega) hj hrp
      have : r' ≠ r := fun e => by rw [e, hg] at h1; omega
      rw [upd_other _ _ this]; exact h1
  · by_cases er : r' = r
    · subst er
      exact .inr ⟨nc, 0, by omega, by rw [up_same]; omega, by rw [upl_same, up_same]; exact hr, by rw [upd_same]⟩
    · rw [upd_other _ _ er]
      rcases h.g2 r' hr' with h1 | ⟨i, j, hi, hj, h1, h2⟩
      · exact .inl h1
      · exact .inr ⟨i, j, by omega, by rw [up_other _ _ (by omega)]; exact hj, by rw [upl_other _ _ _ (by omega)]; exact h1, h2⟩
theorem GP.join (hR : RS G G.n R) (h : GP G R e gof nc cn cl) (hE : e < G.E) (ho : G.ocb R e = true) {r : Nat} (hr : Rpp R (G.sr e) r) (hg : gof r ≠ -1) : ∃ i, i < nc ∧ gof r = ((i : Nat) : Int) ∧ GP G R (e + 1) gof nc (up cn i (cn i + 1)) (upl cl i (cn i) e) := by
  have le := G.sr_lt hE
  have lr := hr.le
  rcases h.g2 r (by omega) with h1 | ⟨i, j, hi, hj, h1, h2⟩
  · exact absurd h1 hg
  have lg : G.sr (cl i j) < G.n := G.sr_lt (by have := (h.pt.el i j hi hj).1; omega)
  have hrel : Rl0 G e (cl i j) := (Rpp.eq_iff hR le lg hr h1).1 rfl
  refine ⟨i, hi, h2, h.pt.join (fun h1 => absurd h1.1 (Nat.lt_irrefl _)) (Sb_succ ho) hi hj hrel (fun a b _ _ h1 => GR.sc_symm h1) (fun a b c _ _ _ h1 h2 => GR.sc_trans h1 h2), fun i' j' r' hi' hj' hrp => ?_, fun r' hr' => ?_⟩
  · by_cases ei : i' = i
    · subst ei
      rw [up_same] at hj'
      rw [upl_same] at hrp
      by_cases ej : j' = cn i'
      · subst ej
        rw [up_same] at hrp
        have : r' = r := (Rpp.eq_iff hR le le hrp hr).2 (G.sc_refl _)
        rw [this]; exact h2
      · rw [up_other _ _ ej] at hrp
        exact h.g1 i' j' r' hi' (by omega) hrp
    · rw [up_other _ _ ei] at hj'
      rw [upl_other _ _ _ ei] at hrp
      exact h.g1 i' j' r' hi' hj' hrp
  · rcases h.g2 r' hr' with h3 | ⟨i', j', hi', hj', h3, h4⟩
    · exact .inl h3
    · refine .inr ⟨i', j', hi', ?_, ?_, h4⟩
      · by_cases ei : i' = i
        · subst ei; rw [up_same]; omega
        · rw [up_other _ _ ei]; exact hj'
      · by_cases ei : i' = i
        · subst ei; rw [upl_same, up_other _ _ (by omega)]; exact h3
        · rw [upl_other _ _ _ ei]; exact h3
theorem GP.cn_le (h : GP G R e gof nc cn cl) (hE : e ≤ G.E) {i : Nat} (hi : i < nc) : cn i ≤ G.E := h.pt.cn_le (fun f hf => Nat.lt_of_lt_of_le hf.1 hE) hi
theorem GP.nc_le (h : GP G R e gof nc cn cl) (hE : e ≤ G.E) : nc ≤ G.E := h.pt.nc_le (fun f hf => Nat.lt_of_lt_of_le hf.1 hE)
end
end Go.Proofs.Qxb6602148a
