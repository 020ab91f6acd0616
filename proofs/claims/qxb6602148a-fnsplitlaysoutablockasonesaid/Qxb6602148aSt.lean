/-
  'split': its end: each moved edge is listed at its new slot. And the code's parts.
-/
import Derived.Test.Qxb6602148aSs
attribute [local go_sem] Go.Proofs.Qxb6602148a.yTo Go.Proofs.Qxb6602148a.yUpon
namespace Go.Proofs.Qxb6602148a
open Go.RowKit
set_option linter.unusedVariables false
set_option linter.unusedSimpArgs false

/-- What stands behind n statements. -/
def tl : Nat → Code → Code
  | 0, c => c
  | n + 1, .seq _ b => tl n b
  | _ + 1, c => c
def sL : Code → Code
  | .seq a _ => a
  | c => c

/-- What 'split' leaves, plainly. -/
structure SPost (P0 : PS) (LA : LS) (U : UG) (s : HS) (S : SS) : Prop where
  lay : Lay P0 S.P S.L
  nb : S.L.nb = LA.nb + s.nb
  blk : ∀ e, (∃ a b, U.inc a e b) → S.L.blk e = LA.nb + s.blk e ∧ 1 ≤ s.blk e ∧ s.blk e ≤ s.nb
  blko : ∀ e, (¬ ∃ a b, U.inc a e b) → S.L.blk e = LA.blk e
  eqv : ∀ e e', (∃ a b, U.inc a e b) → (∃ a b, U.inc a e' b) → (s.blk e = s.blk e' ↔ U.Eqv e e')
  dn : ∀ e, S.L.dn e ↔ LA.dn e ∨ ∃ a b, U.inc a e b
  kbo : ∀ β, β ≤ LA.nb → S.L.kb β = LA.kb β
  tle : LA.t ≤ S.L.t
  nuo : ∀ k, k < LA.t → S.L.nu k = LA.nu k
  tou : ∀ k, LA.t ≤ k → k < S.L.t → ∃ e, S.L.blk e ≠ 0 ∧ (S.P.fr e = ((P0.ns k : Nat) : Int) ∨ S.P.to e = ((P0.ns k : Nat) : Int))
  full : ∀ β, LA.nb < β → β ≤ S.L.nb → ∃ e, S.L.blk e = β
  mks : 0 ≤ S.P.marks
  tb : S.L.t ≤ 2 * cnt (nz S.L) P0.nE
  nbb : S.L.nb ≤ cnt (nz S.L) P0.nE

/-- What 'split' leaves in memory. -/
def SDone (x : SC0) (w' : World) (R : SS → Prop) : Prop := ∃ S M', Rep KP w' M' ∧ PM M' S.P ∧ Grew x.M x.w M' w' ∧ LocX XA x.M M' ∧ R S

/-- The edges of the slots, as they stood at the beginning. -/
structure Outs (P0 : PS) (LA : LS) (U : UG) (N : Nat) (str : Nat → Nat) : Prop where
  e1 : ∀ i j, i < N → j < P0.on (str i) → ∃ e : Nat, P0.out (str i) j = (e : Int) ∧ e < P0.nE ∧ P0.fr e = ((str i : Nat) : Int) ∧ LA.blk e = 0
  e2 : ∀ i j j', i < N → j < j' → j' < P0.on (str i) → P0.out (str i) j < P0.out (str i) j'
  e3 : ∀ e, (∃ a b, U.inc a e b) → ∃ i j, i < N ∧ j < P0.on (str i) ∧ P0.out (str i) j = (e : Int)
  e4 : ∀ e, (∃ a b, U.inc a e b) → ¬ LA.dn e
  lt : ∀ i, i < N → str i < P0.nS

/-- While the moved edges are listed: S0 is what the search left. -/
structure FQ (P0 : PS) (LA : LS) (U : UG) (N : Nat) (str : Nat → Nat) (S0 : SS) (i j : Nat) (S : SS) : Prop where
  P : ∃ on out, S.P = { S0.P with on := on, out := out }
  L : ∃ dn, S.L = { S0.L with dn := dn }
  lay : Lay P0 S.P S.L
  dn : ∀ e, S.L.dn e ↔ LA.dn e ∨ ((∃ a b, U.inc a e b) ∧ ∃ i' j', bef i' j' i j ∧ i' < N ∧ j' < P0.on (str i') ∧ P0.out (str i') j' = (e : Int))

theorem Lay.kmono {P0 P : PS} {L : LS} (h : Lay P0 P L) : ∀ n β, β + n ≤ L.nb → L.kb β ≤ L.kb (β + n)
  | 0, _, _ => Nat.le_refl _
  | n + 1, β, hb => Nat.le_trans (h.kmono n β (by omega)) (h.kbm (β + n) (by omega))

section
variable {P0 : PS} {LA : LS} {U : UG} {N : Nat} {str : Nat → Nat} {s : HS} {S S0 : SS} {i j e : Nat}

theorem FQ.start (h : SQ P0 LA U N str s S) : FQ P0 LA U N str S 0 0 S :=
  ⟨⟨S.P.on, S.P.out, rfl⟩, ⟨S.L.dn, rfl⟩, h.lay, fun e => by
    rw [h.dn]
    constructor
    · exact .inl
    · rintro (h | ⟨_, i', j', hb, _⟩)
      · exact h
      · unfold bef at hb; omega⟩
theorem FQ.next (h : FQ P0 LA U N str S0 i (P0.on (str i)) S) : FQ P0 LA U N str S0 (i + 1) 0 S := by
  refine ⟨h.P, h.L, h.lay, fun e => ?_⟩
  rw [h.dn e]
  constructor
  · rintro (hh | ⟨h1, i', j', hb, h2⟩)
    · exact .inl hh
    · exact .inr ⟨h1, i', j', by unfold bef at hb ⊢; omega, h2⟩
  · rintro (hh | ⟨h1, i', j', hb, h2, h3, h4⟩)
    · exact .inl hh
    · refine .inr ⟨h1, i', j', ?_, h2, h3, h4⟩
      unfold bef at hb ⊢
      rcases Nat.lt_or_ge i' i with hlt | hge
      · exact .inl hlt
      · have : i' = i := by omega
        exact .inr ⟨this, by rw [← this]; exact h3⟩
/-- An edge that has not been moved. -/
theorem FQ.skip (h : FQ P0 LA U N str S0 i j S) (he : P0.out (str i) j = (e : Int)) (hn : ¬ ∃ a b, U.inc a e b) : FQ P0 LA U N str S0 i (j + 1) S := by
  refine ⟨h.P, h.L, h.lay, fun e' => ?_⟩
  rw [h.dn e']
  constructor
  · rintro (hh | ⟨h1, i', j', hb, h2⟩)
    · exact .inl hh
    · exact .inr ⟨h1, i', j', by unfold bef at hb ⊢; omega, h2⟩
  · rintro (hh | ⟨h1, i', j', hb, h2, h3, h4⟩)
    · exact .inl hh
    · refine .inr ⟨h1, i', j', ?_, h2, h3, h4⟩
      unfold bef at hb ⊢
      rcases hb with hb | ⟨hb1, hb2⟩
      · exact .inl hb
      · refine .inr ⟨hb1, ?_⟩
        have : j' ≠ j := fun ej => by
          rw [hb1, ej, he] at h4
          have : e = e' := by omega
          rw [← this] at h1
          exact hn h1
        omega
/-- One that has been moved: it is listed. -/
theorem FQ.push (h : FQ P0 LA U N str S0 i j S) (hs : Spare P0) (ho : Orient P0 U N str) (hu : Outs P0 LA U N str) (hi : i < N) (hj : j < P0.on (str i)) (he : P0.out (str i) j = (e : Int)) (hin : ∃ a b, U.inc a e b) (hk1 : ∀ e, (∃ a b, U.inc a e b) → LA.nb < S0.L.blk e) (hk2 : ∀ e, (¬ ∃ a b, U.inc a e b) → S0.L.blk e ≤ LA.nb) (hb : S.L.blk e ≠ 0) :
    ∃ k, k < S.L.t ∧ S.P.fr e = ((P0.ns k : Nat) : Int) ∧ FQ P0 LA U N str S0 i (j + 1) { S with P := S.P.pushOut (P0.ns k) e, L := { S.L with dn := fun x => x = e ∨ S.L.dn x } } := by
  obtain ⟨m1, m2, k, k', m3, m4, m5, m6, m7, m8, m9, m10⟩ := h.lay.move e hb
  have hkt : k < S.L.t := Nat.lt_of_lt_of_le m4 (h.lay.kle m1)
  obtain ⟨e1, a1, a2, a3, a4⟩ := hu.e1 i j hi hj
  have ee : e1 = e := by rw [he] at a1; omega
  subst ee
  have nuk : S.L.nu k = str i := by rw [a3] at m9; omega
  have hlast : ∀ x, S.L.dn x → S.L.blk x ≠ 0 → S.P.fr x = ((P0.ns k : Nat) : Int) → x < e1 := by
    intro x hd hbx hfx
    obtain ⟨n1, n2, l, l', n3, n4, n5, n6, n7, n8, n9, n10⟩ := h.lay.move x hbx
    have hlk : l = k := hs.ns_inj (by rw [n7] at hfx; omega)
    rw [hlk, nuk] at n9
    rcases (h.dn x).1 hd with hh | ⟨h1, i', j', hbf, h2, h3, h4⟩
    · exfalso
      by_cases hx : ∃ a b, U.inc a x b
      · exact hu.e4 x hx hh
      · obtain ⟨dn, hL⟩ := h.L
        have c1 := hk1 e1 hin
        have c2 := hk2 x hx
        have d1 : S.L.blk = S0.L.blk := by rw [hL]
        rw [← d1] at c1 c2
        have q1 := h.lay.kmono (LA.nb - S.L.blk x) (S.L.blk x) (by omega)
        have q2 := h.lay.kmono (S.L.blk e1 - 1 - LA.nb) LA.nb (by omega)
        rw [show S.L.blk x + (LA.nb - S.L.blk x) = LA.nb by omega] at q1
        rw [show LA.nb + (S.L.blk e1 - 1 - LA.nb) = S.L.blk e1 - 1 by omega] at q2
        omega
    · obtain ⟨e2, b1, b2, b3, b4⟩ := hu.e1 i' j' h2 h3
      have : e2 = x := by rw [h4] at b1; omega
      subst this
      rw [b3] at n9
      have hii : i' = i := ho.inj i' i h2 hi (by omega)
      subst hii
      unfold bef at hbf
      have hjj : j' < j := by omega
      have := hu.e2 i' j' j hi hjj hj
      rw [h4, he] at this
      omega
  refine ⟨k, hkt, m7, ?_⟩
  have hl := h.lay.list hs e1 k hb hkt m7 hlast
  obtain ⟨on, out, hP⟩ := h.P
  obtain ⟨dn, hL⟩ := h.L
  refine ⟨⟨(S.P.pushOut (P0.ns k) e1).on, (S.P.pushOut (P0.ns k) e1).out, ?_⟩, ⟨fun x => x = e1 ∨ S.L.dn x, ?_⟩, hl, fun e' => ?_⟩
  · show S.P.pushOut (P0.ns k) e1 = _
    rw [hP]; rfl
  · simp only [hL]
  · show (e' = e1 ∨ S.L.dn e') ↔ _
    rw [h.dn e']
    constructor
    · rintro (rfl | hh | ⟨h1, i', j', hbf, h2⟩)
      · exact .inr ⟨hin, i, j, by unfold bef; omega, hi, hj, he⟩
      · exact .inl hh
      · exact .inr ⟨h1, i', j', by unfold bef at hbf ⊢; omega, h2⟩
    · rintro (hh | ⟨h1, i', j', hbf, h2, h3, h4⟩)
      · exact .inr (.inl hh)
      · by_cases ee : e' = e1
        · exact .inl ee
        · refine .inr (.inr ⟨h1, i', j', ?_, h2, h3, h4⟩)
          unfold bef at hbf ⊢
          rcases hbf with hb' | ⟨hb1, hb2⟩
          · exact .inl hb'
          · refine .inr ⟨hb1, ?_⟩
            have : j' ≠ j := fun ej => ee (by rw [hb1, ej, he] at h4; omega)
            omega
end

def C3 (w0 w1 w2 w3 : World) : Nat → World → Prop
  | 0, w => w = w0
  | 1, w => w = w1
  | 2, w => w = w2
  | 3, w => w = w3
  | _, _ => False
/-- 'append' in a region, once what it yields is known. -/
theorem yTo_append {P : Program} {o : Oper} {a : Act} {w w' : World} {v vs vx : Value} {D : World → Prop} (s x : Operand) (t : TypeId) (ho : o.op = .call { callee := .builtin .append, args := #[s, x], argTypes := #[t, t] }) (hs : a.eval s = vs) (hx : a.eval x = vx)
    (hr : (Builtin.append_ #[t, t] o.type #[vs, vx]).run P w = .ok v w') (hD : D w') : yTo P o a w v D := by
  unfold yTo execOp
  simp only [ho, resolve, invoke, builtin, Sem.run_bind, Sem.run_pure, Result.andThen_ok, List.map_toArray, List.map_cons, List.map_nil, hs, hx, hr]
  exact ⟨rfl, hD⟩

def FinO (x : SC0) (S0 : SS) (k : Value) (wr : World) : Prop :=
  ∃ i S M', i ≤ x.d.N ∧ k = .int .i64 (i : Int) ∧ SIn x.w x.M x.d.p x.q33 wr M' S.P ∧ FQ x.P0 x.LA x.U x.d.N x.str S0 i 0 S
def FinI (x : SC0) (S0 : SS) (i : Nat) (vo : Value) (k : Value) (wr : World) : Prop :=
  ∃ j S M', j ≤ x.P0.on (x.str i) ∧ k = .int .i64 (j : Int) ∧ SIn x.w x.M x.d.p x.q33 wr M' S.P ∧ FQ x.P0 x.LA x.U x.d.N x.str S0 i j S ∧ M'.val (60 + 3 * x.str i) = vo

section
variable {w wr : World} {M M' : Fam} {p q33 : Nat} {P' : PS}
/-- One edge more in a slot's list. -/
theorem SIn.pushout (h : SIn w M p q33 wr M' P') {t g3 : Nat} (b3 : M'.b 3 = some g3) (ht : t < P'.nS) (e : Int) {w1 w2 : World} {g k : Nat} (hR : Rep KP w2 (M'.put (60 + 3 * t) (some g) (M'.n (60 + 3 * t) + 1) k (ext (M'.F (60 + 3 * t)) (M'.n (60 + 3 * t) * 1) [.int .i64 e]))) (hG : Grew M' w1 (M'.put (60 + 3 * t) (some g) (M'.n (60 + 3 * t) + 1) k (ext (M'.F (60 + 3 * t)) (M'.n (60 + 3 * t) * 1) [.int .i64 e])) w2) (hw : Grew M w M' w1) :
    SIn w M p q33 (w2.setCell ⟨g3, t * 7 + 2, none⟩ (.slice (some ⟨g, 0, none⟩) (M'.n (60 + 3 * t) + 1) k)) ((M'.put (60 + 3 * t) (some g) (M'.n (60 + 3 * t) + 1) k (ext (M'.F (60 + 3 * t)) (M'.n (60 + 3 * t) * 1) [.int .i64 e])).set 3 (t * 7 + 2) (.slice (some ⟨g, 0, none⟩) (M'.n (60 + 3 * t) + 1) k)) (P'.pushOut t e) := by
  have b3' : (M'.put (60 + 3 * t) (some g) (M'.n (60 + 3 * t) + 1) k (ext (M'.F (60 + 3 * t)) (M'.n (60 + 3 * t) * 1) [.int .i64 e])).b 3 = some g3 := (put_b (by omega)).trans b3
  refine ⟨hR.set b3' _ _, h.pm.push_out ht e g k, (hw.trans hG).set ⟨3, b3'⟩ _ _ _ _, (h.loc.put (.inl (by unfold Own; omega)) (by omega)).set (.inl (by unfold Own; omega)), ?_, ?_, ?_⟩
  · rw [set_b, put_b (by omega)]; exact h.b33
  · rw [set_n, put_n (by omega)]; exact h.n33
  · rw [set_F _ (by omega), put_F (by omega)]; exact h.f33
end

theorem Lay.on_le {P0 P : PS} {L : LS} (h : Lay P0 P L) {k : Nat} (hk : k < L.t) : P.on (P0.ns k) ≤ P0.nE := by
  have key : ∀ j, j < P.on (P0.ns k) → (j : Int) ≤ P.out (P0.ns k) j := by
    intro j
    induction j with
    | zero => intro hj; obtain ⟨e, e1, _⟩ := h.out1 k 0 hk hj; rw [e1]; omega
    | succ j ih =>
      intro hj
      have h1 := ih (by omega)
      have h2 := h.out3 k j (j + 1) hk (by omega) hj
      omega
  rcases Nat.eq_zero_or_pos (P.on (P0.ns k)) with h0 | h0
  · omega
  · obtain ⟨e, e1, e2, _⟩ := h.out1 k (P.on (P0.ns k) - 1) hk (by omega)
    have := key (P.on (P0.ns k) - 1) (by omega)
    rw [e1] at this
    have := (h.move e e2).2.1
    omega
end Go.Proofs.Qxb6602148a
