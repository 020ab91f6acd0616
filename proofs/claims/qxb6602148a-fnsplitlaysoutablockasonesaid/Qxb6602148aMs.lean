/-
  PLAIN: lists are parted node by node.
-/
import Derived.Test.Qxb6602148aMdh
attribute [local go_sem] Go.Proofs.Qxb6602148a.yTo Go.Proofs.Qxb6602148a.yUpon
namespace Go.Proofs.Qxb6602148a
set_option linter.unusedVariables false
set_option linter.unusedSimpArgs false

/-- Some edge before e that lies on a cycle and does not touch x joins a and b. -/
def GR.AXe (G : GR) (R : Nat → Nat → Bool) (x e a b : Nat) : Prop := ∃ f, f < e ∧ G.ocb R f = true ∧ G.sr f ≠ x ∧ G.ds f ≠ x ∧ ((G.sr f = a ∧ G.ds f = b) ∨ (G.sr f = b ∧ G.ds f = a))
theorem GR.AXe_symm {G : GR} {R : Nat → Nat → Bool} {x e a b : Nat} (h : G.AXe R x e a b) : G.AXe R x e b a := by
  obtain ⟨f, h1, h2, h3, h4, h5⟩ := h
  exact ⟨f, h1, h2, h3, h4, h5.symm⟩
/-- The roots tell the pieces. -/
def RtI (G : GR) (R : Nat → Nat → Bool) (x e : Nat) (rt : Nat → Nat) : Prop := ∀ a b, a < G.n → b < G.n → (rt a = rt b ↔ Rch (G.AXe R x e) a b)
section
variable {G : GR} {R : Nat → Nat → Bool} {x e : Nat} {rt : Nat → Nat}
theorem RtI.start (G : GR) (R : Nat → Nat → Bool) (x : Nat) : RtI G R x 0 (fun v => v) := by
  intro a b _ _
  constructor
  · intro h; rw [show a = b from h]; exact Rch.refl _ _
  · intro h
    exact h (fun y => a = y) rfl (fun y z _ r => by obtain ⟨f, h1, _⟩ := r; omega)
theorem AXe_mono {a b : Nat} (h : G.AXe R x e a b) : G.AXe R x (e + 1) a b := by
  obtain ⟨f, h1, h2⟩ := h
  exact ⟨f, by omega, h2⟩
theorem RtI.skip (h : RtI G R x e rt) (hs : ¬ (G.ocb R e = true ∧ G.sr e ≠ x ∧ G.ds e ≠ x)) : RtI G R x (e + 1) rt := by
  intro a b ha hb
  rw [h a b ha hb]
  constructor
  · exact Rch.mono (fun _ _ => AXe_mono)
  · refine Rch.mono (fun y z r => ?_)
    obtain ⟨f, h1, h2, h3, h4, h5⟩ := r
    refine ⟨f, ?_, h2, h3, h4, h5⟩
    by_cases ef : f = e
    · subst ef; exact absurd ⟨h2, h3, h4⟩ hs
    · omega
theorem RtI.join (ok : G.Ok) (he : e < G.E) (h : RtI G R x e rt) (h1 : G.ocb R e = true) (h2 : G.sr e ≠ x) (h3 : G.ds e ≠ x) : RtI G R x (e + 1) (jrt rt (G.sr e) (G.ds e)) := by
  have ls := G.sr_lt he
  have ld := G.ds_lt ok he
  have one : Rch (G.AXe R x (e + 1)) (G.sr e) (G.ds e) := Rch.one ⟨e, by omega, h1, h2, h3, .inl ⟨rfl, rfl⟩⟩
  have eno : Rch (G.AXe R x (e + 1)) (G.ds e) (G.sr e) := Rch.symm (fun _ _ => GR.AXe_symm) one
  have up1 : ∀ {a b}, a < G.n → b < G.n → rt a = rt b → Rch (G.AXe R x (e + 1)) a b := fun ha hb e => ((h _ _ ha hb).1 e).mono (fun _ _ => AXe_mono)
  intro a b ha hb
  constructor
  · intro hj
    unfold jrt at hj
    by_cases ea : rt a = rt (G.sr e)
    · by_cases eb : rt b = rt (G.sr e)
      · exact up1 ha hb (ea.trans eb.symm)
      · rw [if_pos ea, if_neg eb] at hj
        exact ((up1 ha ls ea).trans one).trans (up1 ld hb hj)
    · by_cases eb : rt b = rt (G.sr e)
      · rw [if_neg ea, if_pos eb] at hj
        exact ((up1 ha ld hj).trans eno).trans (up1 ls hb eb.symm)
      · rw [if_neg ea, if_neg eb] at hj
        exact up1 ha hb hj
  · intro hr
    have := hr (fun y => y < G.n ∧ jrt rt (G.sr e) (G.ds e) a = jrt rt (G.sr e) (G.ds e) y) ⟨ha, rfl⟩ (fun y z hy r => by
      obtain ⟨f, f1, f2, f3, f4, f5⟩ := r
      have lf : f < G.E := by omega
      have l1 := G.sr_lt lf
      have l2 := G.ds_lt ok lf
      have lz : z < G.n := by rcases f5 with ⟨_, h⟩ | ⟨h, _⟩ <;> omega
      refine ⟨lz, hy.2.trans ?_⟩
      by_cases ef : f = e
      · subst ef
        have key : jrt rt (G.sr f) (G.ds f) (G.sr f) = jrt rt (G.sr f) (G.ds f) (G.ds f) := by
          unfold jrt
          rw [if_pos rfl]
          by_cases e2 : rt (G.ds f) = rt (G.sr f)
          · rw [if_pos e2]
          · rw [if_neg e2]
        rcases f5 with ⟨e1, e2⟩ | ⟨e1, e2⟩
        · rw [← e1, ← e2]; exact key
        · rw [← e1, ← e2]; exact key.symm
      · have := (h y z hy.1 lz).2 (Rch.one ⟨f, by omega, f2, f3, f4, f5⟩)
        unfold jrt
        rw [this])
    exact this.2
end
/-- The end of f that counts when x is taken out. -/
def GR.en (G : GR) (x f : Nat) : Nat := if G.sr f = x then G.ds f else G.sr f
theorem GR.en_lt (G : GR) (ok : G.Ok) {f : Nat} (x : Nat) (hf : f < G.E) : G.en x f < G.n := by
  unfold GR.en; split
  · exact G.ds_lt ok hf
  · exact G.sr_lt hf
/-- One kind, as far as nodes before x tell. -/
def Rl (G : GR) (R : Nat → Nat → Bool) (x f f' : Nat) : Prop := G.sc (G.sr f) (G.sr f') ∧ ∀ x', x' < x → Rch (G.AXe R x' G.E) (G.en x' f) (G.en x' f')
section
variable {G : GR} {R : Nat → Nat → Bool} {x : Nat}
theorem Rl.refl (f : Nat) : Rl G R x f f := ⟨G.sc_refl _, fun _ _ => Rch.refl _ _⟩
theorem Rl.symm {f f' : Nat} (h : Rl G R x f f') : Rl G R x f' f := ⟨GR.sc_symm h.1, fun x' hx => Rch.symm (fun _ _ => GR.AXe_symm) (h.2 x' hx)⟩
theorem Rl.trans {f f' f'' : Nat} (h : Rl G R x f f') (h' : Rl G R x f' f'') : Rl G R x f f'' := ⟨GR.sc_trans h.1 h'.1, fun x' hx => (h.2 x' hx).trans (h'.2 x' hx)⟩
theorem Rl.zero {f f' : Nat} : Rl G R 0 f f' ↔ Rl0 G f f' := ⟨fun h => h.1, fun h => ⟨h, fun x' hx => absurd hx (Nat.not_lt_zero _)⟩⟩
theorem Rl.succ {f f' : Nat} : Rl G R (x + 1) f f' ↔ Rl G R x f f' ∧ Rch (G.AXe R x G.E) (G.en x f) (G.en x f') := by
  constructor
  · intro h; exact ⟨⟨h.1, fun x' hx => h.2 x' (by omega)⟩, h.2 x (by omega)⟩
  · rintro ⟨h1, h2⟩
    refine ⟨h1.1, fun x' hx => ?_⟩
    by_cases ex : x' = x
    · subst ex; exact h2
    · exact h1.2 x' (by omega)
end

/-- Edges of the lists that have been gone through. -/
def Sij (nc : Nat) (cn : Nat → Nat) (cl : Nat → Nat → Nat) (i j f : Nat) : Prop := ∃ i' j', (i' < i ∨ (i' = i ∧ j' < j)) ∧ i' < nc ∧ j' < cn i' ∧ cl i' j' = f
/-- Lists are parted by the roots rt: list i is gone through up to j. -/
structure RP (G : GR) (R : Nat → Nat → Bool) (x : Nat) (rt : Nat → Nat) (nc : Nat) (cn : Nat → Nat) (cl : Nat → Nat → Nat) (i j : Nat) (st wh : Nat → Nat) (rd nr : Nat) (rn : Nat → Nat) (rl : Nat → Nat → Nat) : Prop where
  pt : PT (Sij nc cn cl i j) (Rl G R (x + 1)) nr rn rl
  s1 : ∀ v, v < G.n → st v ≤ rd
  s2 : ∀ v, v < G.n → st v = rd → ∃ j' k q, j' < j ∧ rt (G.en x (cl i j')) = v ∧ k < nr ∧ q < rn k ∧ rl k q = cl i j' ∧ wh v = k
  s3 : ∀ j', j' < j → st (rt (G.en x (cl i j'))) = rd
section
variable {G : GR} {R : Nat → Nat → Bool} {x : Nat} {rt : Nat → Nat} {nc : Nat} {cn : Nat → Nat} {cl : Nat → Nat → Nat} {i j : Nat} {st wh : Nat → Nat} {rd nr : Nat} {rn : Nat → Nat} {rl : Nat → Nat → Nat}
theorem Sij_succ (hi : i < nc) (hj : j < cn i) (f : Nat) : Sij nc cn cl i (j + 1) f ↔ Sij nc cn cl i j f ∨ f = cl i j := by
  constructor
  · rintro ⟨i', j', h1, h2, h3, h4⟩
    by_cases e : i' = i ∧ j' = j
    · obtain ⟨rfl, rfl⟩ := e; exact .inr h4.symm
    · exact .inl ⟨i', j', by omega, h2, h3, h4⟩
  · rintro (⟨i', j', h1, h2, h3, h4⟩ | rfl)
    · exact ⟨i', j', by omega, h2, h3, h4⟩
    · exact ⟨i, j, by omega, hi, hj, rfl⟩
theorem Sij_lt (hc : PT (Sb G R G.E) (Rl G R x) nc cn cl) {f : Nat} (h : Sij nc cn cl i j f) : f < G.E := by
  obtain ⟨i', j', h1, h2, h3, rfl⟩ := h
  exact (hc.el i' j' h2 h3).1
theorem Sij_not (hc : PT (Sb G R G.E) (Rl G R x) nc cn cl) (hi : i < nc) (hj : j < cn i) : ¬ Sij nc cn cl i j (cl i j) := by
  rintro ⟨i', j', h1, h2, h3, h4⟩
  have := hc.inj i' j' i j h2 h3 hi hj h4
  omega
theorem RP.begin (hs : ∀ v, v < G.n → st v ≤ rd) : RP G R x rt nc cn cl 0 0 st wh (rd + 1) 0 (fun _ => 0) (fun _ _ => 0) :=
  ⟨PT.nil (fun f h => by obtain ⟨i', j', h1, _⟩ := h; omega) _ _ _, fun v hv => Nat.le_succ_of_le (hs v hv), fun v hv e => by have := hs v hv; omega, fun j' h => absurd h (Nat.not_lt_zero _)⟩
/-- A list's end: the next begins. -/
theorem RP.next (h : RP G R x rt nc cn cl i (cn i) st wh rd nr rn rl) (hi : i < nc) : RP G R x rt nc cn cl (i + 1) 0 st wh (rd + 1) nr rn rl := by
  refine ⟨h.pt.congr (fun f => ?_) (fun _ _ _ _ => Iff.rfl), fun v hv => Nat.le_succ_of_le (h.s1 v hv), fun v hv e => by have := h.s1 v hv; omega, fun j' h => absurd h (Nat.not_lt_zero _)⟩
  constructor
  · rintro ⟨i', j', h1, h2, h3, h4⟩
    exact ⟨i', j', by omega, h2, h3, h4⟩
  · rintro ⟨i', j', h1, h2, h3, h4⟩
    refine ⟨i', j', ?_, h2, h3, h4⟩
    by_cases e : i' = i
    · subst e; exact .inr ⟨rfl, h3⟩
    · exact .inl (by omega)
theorem RP.fresh (hc : PT (Sb G R G.E) (Rl G R x) nc cn cl) (ok : G.Ok) (hrt : RtI G R x G.E rt) (h : RP G R x rt nc cn cl i j st wh rd nr rn rl) (hi : i < nc) (hj : j < cn i) (hs : st (rt (G.en x (cl i j))) ≠ rd) :
    RP G R x rt nc cn cl i (j + 1) (up st (rt (G.en x (cl i j))) rd) (up wh (rt (G.en x (cl i j))) nr) rd (nr + 1) (up rn nr 1) (upl rl nr 0 (cl i j)) := by
  have lf := (hc.el i j hi hj).1
  refine ⟨h.pt.fresh (Sij_not hc hi hj) (Sij_succ hi hj) ?_ (Rl.refl _) (fun a b _ _ => Rl.symm), fun v hv => ?_, fun v hv e => ?_, fun j' hj' => ?_⟩
  · rintro g ⟨i', j', h1, h2, h3, rfl⟩ hr
    obtain ⟨r1, r2⟩ := Rl.succ.1 hr
    have ei := (hc.eqv i j i' j' hi hj h2 h3).2 r1
    subst ei
    have := (hrt _ _ (G.en_lt ok x lf) (G.en_lt ok x (hc.el i j' h2 h3).1)).2 r2
    have h4 := h.s3 j' (by omega)
    rw [← this] at h4
    exact hs h4
  · by_cases e : v = rt (G.en x (cl i j))
    · subst e; rw [up_same]; exact Nat.le_refl _
    · rw [up_other _ _ e]; exact h.s1 v hv
  · by_cases e2 : v = rt (G.en x (cl i j))
    · subst e2
      exact ⟨j, nr, 0, by omega, rfl, by omega, by rw [up_same]; omega, by rw [upl_same, up_same], by rw [up_same]⟩
    · rw [up_other _ _ e2] at e
      obtain ⟨j', k, q, a1, a2, a3, a4, a5, a6⟩ := h.s2 v hv e
      exact ⟨j', k, q, by omega, a2, by omega, by rw [up_other _ _ (by omega)]; exact a4, by rw [upl_other _ _ _ (by omega)]; exact a5, by rw [up_other _ _ e2]; exact a6⟩
  · by_cases ej : j' = j
    · subst ej; rw [up_same]
    · by_cases e : rt (G.en x (cl i j')) = rt (G.en x (cl i j))
      · rw [e, up_same]
      · rw [up_other _ _ e]; exact h.s3 j' (by omega)
theorem RP.join (hc : PT (Sb G R G.E) (Rl G R x) nc cn cl) (ok : G.Ok) (hrt : RtI G R x G.E rt) (h : RP G R x rt nc cn cl i j st wh rd nr rn rl) (hi : i < nc) (hj : j < cn i) (hl : rt (G.en x (cl i j)) < G.n) (hs : st (rt (G.en x (cl i j))) = rd) :
    wh (rt (G.en x (cl i j))) < nr ∧ RP G R x rt nc cn cl i (j + 1) st wh rd nr (up rn (wh (rt (G.en x (cl i j)))) (rn (wh (rt (G.en x (cl i j)))) + 1)) (upl rl (wh (rt (G.en x (cl i j)))) (rn (wh (rt (G.en x (cl i j))))) (cl i j)) := by
  have lf := (hc.el i j hi hj).1
  obtain ⟨j', k, q, a1, a2, a3, a4, a5, a6⟩ := h.s2 _ hl hs
  rw [a6]
  have lj : j' < cn i := by omega
  have rel : Rl G R (x + 1) (cl i j) (rl k q) := by
    rw [a5]
    exact Rl.succ.2 ⟨(hc.eqv i j i j' hi hj hi lj).1 rfl, (hrt _ _ (G.en_lt ok x lf) (G.en_lt ok x (hc.el i j' hi lj).1)).1 a2.symm⟩
  refine ⟨a3, h.pt.join (Sij_not hc hi hj) (Sij_succ hi hj) a3 a4 rel (fun a b _ _ => Rl.symm) (fun a b c _ _ _ => Rl.trans), h.s1, fun v hv e => ?_, fun j2 hj2 => ?_⟩
  · obtain ⟨j2, k2, q2, b1, b2, b3, b4, b5, b6⟩ := h.s2 v hv e
    refine ⟨j2, k2, q2, by omega, b2, b3, ?_, ?_, b6⟩
    · by_cases ek : k2 = k
      · subst ek; rw [up_same]; omega
      · rw [up_other _ _ ek]; exact b4
    · by_cases ek : k2 = k
      · subst ek; rw [upl_same, up_other _ _ (by omega)]; exact b5
      · rw [upl_other _ _ _ ek]; exact b5
  · by_cases ej : j2 = j
    · subst ej; exact hs
    · exact h.s3 j2 (by omega)
/-- All lists have been gone through. -/
theorem RP.done (hc : PT (Sb G R G.E) (Rl G R x) nc cn cl) (h : RP G R x rt nc cn cl nc 0 st wh rd nr rn rl) : PT (Sb G R G.E) (Rl G R (x + 1)) nr rn rl := by
  refine h.pt.congr (fun f => ?_) (fun _ _ _ _ => Iff.rfl)
  constructor
  · rintro ⟨i', j', h1, h2, h3, rfl⟩
    exact hc.el i' j' h2 h3
  · intro hf
    obtain ⟨i', j', h1, h2, h3⟩ := hc.ex f hf
    exact ⟨i', j', .inl h1, h1, h2, h3⟩
theorem RP.nr_le (hc : PT (Sb G R G.E) (Rl G R x) nc cn cl) (h : RP G R x rt nc cn cl i j st wh rd nr rn rl) : nr ≤ G.E := h.pt.nc_le (fun f hf => Sij_lt hc hf)
theorem RP.rn_le (hc : PT (Sb G R G.E) (Rl G R x) nc cn cl) (h : RP G R x rt nc cn cl i j st wh rd nr rn rl) {k : Nat} (hk : k < nr) : rn k ≤ G.E := h.pt.cn_le (fun f hf => Sij_lt hc hf) hk
end
end Go.Proofs.Qxb6602148a
