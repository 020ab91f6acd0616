/-
  A GRAPH IN MEMORY; a partition of nothing.
-/
import Derived.Test.Qxb6602148aDwn
attribute [local go_sem] Go.Proofs.Qxb6602148a.yTo Go.Proofs.Qxb6602148a.yUpon
namespace Go.Proofs.Qxb6602148a
open Go.RowKit
set_option linter.unusedVariables false
set_option linter.unusedSimpArgs false

def Fam.nil : Fam := { b := fun _ => none, n := fun _ => 0, cap := fun _ => 0, F := fun _ _ => undef }
theorem Rep.nil (K : Nat → TypeId × Nat) (w : World) : Rep K w Fam.nil := ⟨fun i => ⟨rfl, rfl⟩, fun i j g h => by cases h⟩

/-- A graph: n nodes; node v's edges lead to t v 0 .. t v (d v - 1). -/
structure GR where
  n : Nat
  d : Nat → Nat
  t : Nat → Nat → Nat
/-- Node v's first edge. -/
def GR.fst (G : GR) : Nat → Nat
  | 0 => 0
  | v + 1 => G.fst v + G.d v
def GR.E (G : GR) : Nat := G.fst G.n
structure GR.Ok (G : GR) : Prop where
  n : G.n ≤ 4096
  E : G.E ≤ 4096
  t : ∀ v k, v < G.n → k < G.d v → G.t v k < G.n
theorem GR.fst_mono (G : GR) {v v' : Nat} (h : v ≤ v') : G.fst v ≤ G.fst v' := by
  induction h with
  | refl => exact Nat.le_refl _
  | step _ ih => exact Nat.le_trans ih (Nat.le_add_right _ _)
theorem GR.fst_lt (G : GR) {v k : Nat} (hv : v < G.n) (hk : k < G.d v) : G.fst v + k < G.E := by
  have h1 : G.fst (v + 1) ≤ G.E := G.fst_mono (by omega)
  have h2 : G.fst (v + 1) = G.fst v + G.d v := rfl
  omega
theorem GR.fst_inj (G : GR) {v k v' k' : Nat} (hk : k < G.d v) (hk' : k' < G.d v') (e : G.fst v + k = G.fst v' + k') : v = v' ∧ k = k' := by
  rcases Nat.lt_trichotomy v v' with h | h | h
  · have h1 : G.fst (v + 1) ≤ G.fst v' := G.fst_mono h
    have h2 : G.fst (v + 1) = G.fst v + G.d v := rfl
    omega
  · subst h; exact ⟨rfl, by omega⟩
  · have h1 : G.fst (v' + 1) ≤ G.fst v := G.fst_mono h
    have h2 : G.fst (v' + 1) = G.fst v' + G.d v' := rfl
    omega
theorem GR.fst_at (G : GR) {e : Nat} : ∀ n, e < G.fst n → ∃ v k, v < n ∧ k < G.d v ∧ e = G.fst v + k
  | 0, h => by have h : e < 0 := h; omega
  | n + 1, h => by
    have h : e < G.fst n + G.d n := h
    rcases Nat.lt_or_ge e (G.fst n) with h1 | h1
    · obtain ⟨v, k, a, b, c⟩ := G.fst_at n h1
      exact ⟨v, k, by omega, b, c⟩
    · exact ⟨n, e - G.fst n, by omega, by omega, by omega⟩
theorem GR.at (G : GR) {e : Nat} (h : e < G.E) : ∃ v k, v < G.n ∧ k < G.d v ∧ e = G.fst v + k := G.fst_at G.n h

def KG (i : Nat) : TypeId × Nat := if i = 0 then (26, 1) else (3, 1)
/-- It lies in memory: row 0 its lists' headers, row 1 + v node v's list. -/
structure GM (w : World) (N : Fam) (G : GR) (a : Option Addr) (cap : Nat) : Prop where
  rep : Rep KG w N
  hd : N.val 0 = .slice a G.n cap
  n0 : N.n 0 = G.n
  F : ∀ v, v < G.n → N.F 0 v = N.val (1 + v)
  row : ∀ v, v < G.n → Ints N (1 + v) (G.d v) (fun k => ((G.t v k : Nat) : Int))
theorem GM.kept {w w' : World} {N M : Fam} {G : GR} {a : Option Addr} {cap : Nat} (h : GM w N G a cap) (hg : Grew Fam.nil w M w') : GM w' N G a cap :=
  ⟨h.rep.kept (fun i g hb => hg.block g (h.rep.lt hb) (fun i e => by cases e)), h.hd, h.n0, h.F, h.row⟩
theorem GM.drew {w : World} {N : Fam} {G : GR} {a : Option Addr} {cap : Nat} (h : GM w N G a cap) : GM w.drew N G a cap := ⟨h.rep.drew, h.hd, h.n0, h.F, h.row⟩
/-- The header of a list. -/
theorem GM.cell {w : World} {N : Fam} {G : GR} {a : Option Addr} {cap : Nat} (h : GM w N G a cap) {v : Nat} (hv : v < G.n) : ∃ g, a = some ⟨g, 0, none⟩ ∧ G.n ≤ cap ∧ w.cell? ⟨g, v, none⟩ = some (.slice (Option.map (fun g => (⟨g, 0, none⟩ : Addr)) (N.b (1 + v))) (G.d v) (N.cap (1 + v))) := by
  obtain ⟨g, hb⟩ := h.rep.hasBlock (i := 0) (by rw [h.n0]; omega)
  have hd := h.hd
  rw [val_some hb] at hd
  injection hd with e1 e2 e3
  refine ⟨g, e1.symm, ?_, ?_⟩
  · have := h.rep.le_cap 0
    rw [e3, h.n0] at this
    exact this
  · rw [h.rep.cell hb (j := v) (by rw [h.n0]; show v < G.n * 1; omega), h.F v hv]
    unfold Fam.val
    rw [(h.row v hv).1]
/-- An entry of a list. -/
theorem GM.entry {w : World} {N : Fam} {G : GR} {a : Option Addr} {cap : Nat} (h : GM w N G a cap) {v k : Nat} (hv : v < G.n) (hk : k < G.d v) : ∃ g, N.b (1 + v) = some g ∧ G.d v ≤ N.cap (1 + v) ∧ w.cell? ⟨g, k, none⟩ = some (.int .i64 ((G.t v k : Nat) : Int)) := by
  obtain ⟨g, hb⟩ := h.rep.hasBlock (i := 1 + v) (by rw [(h.row v hv).1]; omega)
  have hK : KG (1 + v) = (3, 1) := by unfold KG; rw [if_neg (by omega)]
  refine ⟨g, hb, by have := h.rep.le_cap (1 + v); rw [(h.row v hv).1] at this; exact this, ?_⟩
  rw [h.rep.cell hb (by rw [(h.row v hv).1, hK]; show k < G.d v * 1; omega), (h.row v hv).2 k hk]

/-- A partition of nothing. -/
def P00 (n : Nat) : PS :=
  ⟨n + 1, fun _ => 0, 0, fun _ => 0, fun _ => 0, 0, fun _ => 0, fun _ => 0, fun _ => 0, fun _ => 0, fun _ => 0, fun _ => 0, fun _ => 0, fun _ _ => 0, 0, fun _ => 0, 0, fun _ => 0, fun _ => 0, fun _ => 0, fun _ _ => 0, 0, fun _ => 0, 0, fun _ => 0, 0, fun _ => 0, 0⟩
def hd00 (n g0 : Nat) : Nat → Value := fun j => if j = 0 then .slice (some ⟨g0, 0, none⟩) (n + 1) (n + 1) else if j = 11 then .int .i64 0 else .slice none 0 0
def F00 (n g0 p : Nat) : Fam := (Fam.nil.put 0 (some g0) (n + 1) (n + 1) (fun _ => .int .i64 0)).put 11 (some p) 1 1 (hd00 n g0)
theorem PM00 (n g0 p : Nat) : PM (F00 n g0 p) (P00 n) := by
  refine ⟨rfl, fun j hj => ?_, rfl, ⟨rfl, fun j hj => rfl⟩, ⟨rfl, fun j hj => absurd hj (Nat.not_lt_zero _)⟩, ⟨rfl, fun j hj => absurd hj (Nat.not_lt_zero _)⟩, rfl, fun s hs => absurd hs (Nat.not_lt_zero _), fun s hs => absurd hs (Nat.not_lt_zero _), fun s hs => absurd hs (Nat.not_lt_zero _), fun s hs => absurd hs (Nat.not_lt_zero _), fun s hs => absurd hs (Nat.not_lt_zero _), fun s hs => absurd hs (Nat.not_lt_zero _), fun s hs => absurd hs (Nat.not_lt_zero _), fun s hs => absurd hs (Nat.not_lt_zero _), fun s _ => ?_, ⟨rfl, fun j hj => absurd hj (Nat.not_lt_zero _)⟩, rfl, fun c hc => absurd hc (Nat.not_lt_zero _), fun c hc => absurd hc (Nat.not_lt_zero _), fun c _ => ?_, fun c hc => absurd hc (Nat.not_lt_zero _), ⟨rfl, fun j hj => absurd hj (Nat.not_lt_zero _)⟩, ⟨rfl, fun j hj => absurd hj (Nat.not_lt_zero _)⟩, ⟨rfl, fun j hj => absurd hj (Nat.not_lt_zero _)⟩, ⟨rfl, fun j hj => absurd hj (Nat.not_lt_zero _)⟩, rfl, fun j hj => absurd hj (Nat.not_lt_zero _)⟩
  · unfold F00
    rw [put_Fs, put_val (by omega)]
    by_cases h0 : j = 0
    · subst h0; rw [put_vals]; rfl
    · rw [put_val h0]
      unfold hd00
      rw [if_neg h0, if_neg (by omega)]
      rfl
  · unfold F00; rw [put_b (by omega), put_b (by omega)]; rfl
  · unfold F00; rw [put_b (by omega), put_b (by omega)]; rfl

/-- The memory while a partition is built. -/
structure NIn (w : World) (p : Nat) (wr : World) (M : Fam) (P : PS) : Prop where
  rep : Rep KP wr M
  pm : PM M P
  grew : Grew Fam.nil w M wr
  b11 : M.b 11 = some p
section
variable {w wr w2 : World} {M : Fam} {p : Nat} {P P' : PS}
theorem NIn.drew (h : NIn w p wr M P) : NIn w p wr.drew M P := ⟨h.rep.drew, h.pm, h.grew.drew, h.b11⟩
theorem NIn.drewN (h : NIn w p wr M P) (n : Nat) : NIn w p (wr.drewN n) M P := ⟨h.rep.drewN n, h.pm, h.grew.drewN n, h.b11⟩
theorem NIn.alloc (h : NIn w p wr M P) (o : Obj) : NIn w p (wr.alloc o) M P := ⟨h.rep.alloc o, h.pm, h.grew.alloc o, h.b11⟩
theorem NIn.ne (h : NIn w p wr M P) {i j a b : Nat} (ha : M.b i = some a) (hb : M.b j = some b) (hij : i ≠ j) : a ≠ b := fun e => hij (h.rep.inj i j a ha (by rw [e]; exact hb))
theorem NIn.setp (h : NIn w p wr M P) {i g j : Nat} {v : Value} (hb : M.b i = some g) (hp : PM (M.set i j v) P') : NIn w p (wr.setCell ⟨g, j, none⟩ v) (M.set i j v) P' :=
  ⟨h.rep.set hb j v, hp, h.grew.set ⟨i, hb⟩ _ _ _ _, h.b11⟩
theorem NIn.call (h : NIn w p wr M P) (ho : POut wr M w2 P') : ∃ M', NIn w p w2 M' P' := by
  obtain ⟨M', r, pm, gr, lo⟩ := ho
  exact ⟨M', r, pm, h.grew.trans gr, lo.p.trans h.b11⟩
end
end Go.Proofs.Qxb6602148a
