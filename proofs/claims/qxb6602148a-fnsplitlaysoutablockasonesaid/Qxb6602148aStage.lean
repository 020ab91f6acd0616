/-
  A REGION THAT DRAWS ITS ORDER, READS, AND MOVES THE WORLD IN STAGES: if its moving operations (calls, stores) wait for each other in the order of the text, and each other operation yields one value at every stage, then one walk in the order of the text serves every order. (The kit's 'Quiet' with a class of worlds for each stage in the place of the one class.)
-/
import Derived.Deep.QuietTactic
namespace Go.Proofs.Qxb6602148a
open Go
set_option linter.unusedVariables false

section
variable {P : Program} {ops : Array Oper} {md : Region.Mode} {C : Nat → World → Prop} {mv : Nat → Bool} {top : Nat → Nat}

def yUpon (P : Program) (D : World → Prop) (v : Value) : Result Next → Prop
  | .ok (.value u) w' => u = v ∧ D w'
  | .ok .skip w' => v = undef ∧ D w'
  | .ok (.enter f args) w' => Calls P f args w' (fun e w'' => e = .returned v ∧ D w'')
  | _ => False

/-- Carried out in w, the operation yields v and leaves a world of D. -/
def yTo (P : Program) (o : Oper) (a : Act) (w : World) (v : Value) (D : World → Prop) : Prop := yUpon P D v ((execOp a.eval o).run P w)

/-- A mover at stage k; any other at every stage up to tp. -/
def YSt (P : Program) (ops : Array Oper) (C : Nat → World → Prop) (m : Bool) (tp k : Nat) (o : Oper) (v : Value) (a : Act) : Prop :=
  (Region.wanted o (yielded ops a.tmps) = true ∧ ((m = true ∧ ∀ w, C k w → yTo P o a w v (C (k + 1))) ∨ (m = false ∧ ∀ k w, k ≤ tp → C k w → yTo P o a w v (C k)))) ∨
  (Region.wanted o (yielded ops a.tmps) = false ∧ v = undef ∧ m = false)

def nxt (m : Bool) (k : Nat) : Nat := if m then k + 1 else k

def sOp (P : Program) (ops : Array Oper) (C : Nat → World → Prop) (mv : Nat → Bool) (top : Nat → Nat) (i : Nat) (K : Nat → Act → Prop) (k : Nat) (a : Act) : Prop :=
  match ops[i]? with
  | none => K k a
  | some o => ∃ v, YSt P ops C (mv i) (top i) k o v a ∧ K (nxt (mv i) k) (a.put o.dst v)

theorem sOp_mono {i k : Nat} {a : Act} {K K' : Nat → Act → Prop} (h : ∀ k a, K k a → K' k a) (hh : sOp P ops C mv top i K k a) : sOp P ops C mv top i K' k a := by
  unfold sOp at *
  split
  · rename_i ho; simp only [ho] at hh; exact h _ _ hh
  · rename_i o ho
    simp only [ho] at hh
    obtain ⟨v, h1, h2⟩ := hh
    exact ⟨v, h1, h _ _ h2⟩

def wpAnyT (P : Program) (md : Region.Mode) (ops : Array Oper) (C : Nat → World → Prop) (mv : Nat → Bool) (top : Nat → Nat) (Q : Nat → Act → Prop) : Nat → Array Bool → Nat → Act → Prop
  | 0, listed, k, a => Region.ready md ops listed = [] ∧ Q k a
  | fuel + 1, listed, k, a =>
    (Region.ready md ops listed = [] → Q k a) ∧
    ∀ i ∈ Region.ready md ops listed, sOp P ops C mv top i (wpAnyT P md ops C mv top Q fuel (listed.setIfInBounds i true)) k a

theorem wp_of_yTo {o : Oper} {a : Act} {w : World} {v : Value} {D : World → Prop} {K' : Act → World → Prop} {Q' : Exit → Act → World → Prop} (h : ∀ w', D w' → K' (a.put o.dst v) w') (hh : yTo P o a w v D) : o.wp P a w K' Q' := by
  unfold yTo at hh
  unfold Oper.wp
  generalize (execOp a.eval o).run P w = r at *
  cases r with
  | ok n w' =>
    cases n <;> simp only [yUpon] at hh <;> simp only [Oper.upon]
    case value u =>
      obtain ⟨e1, e2⟩ := hh
      rw [e1]
      exact h _ e2
    case skip =>
      obtain ⟨e1, e2⟩ := hh
      rw [← e1]
      exact h _ e2
    case enter f args =>
      exact hh.mono fun e w'' ⟨he, hw''⟩ => by subst he; exact h _ hw''
  | halt x w' => simp only [yUpon] at hh

theorem wpOp_of_sOp {i k : Nat} {a : Act} {K : Nat → Act → Prop} {K' : Act → World → Prop} {Q' : Exit → Act → World → Prop} {w : World} (hC : C k w) (hk : mv i = false → k ≤ top i) (h : ∀ a w', C (nxt (mv i) k) w' → K (nxt (mv i) k) a → K' a w') (h0 : ops[i]? ≠ none) (hh : sOp P ops C mv top i K k a) : wpOp P ops Q' i K' a w := by
  unfold sOp at hh
  unfold wpOp
  split
  · rename_i ho; exact absurd ho h0
  · rename_i o ho
    simp only [ho] at hh
    obtain ⟨v, hy, hK⟩ := hh
    rcases hy with ⟨hw, hy⟩ | ⟨hw, hv, hm⟩
    · simp only [hw, if_true]
      rcases hy with ⟨hm, hy⟩ | ⟨hm, hy⟩
      · exact .inl (wp_of_yTo (fun w' hw' => h _ _ (by rw [hm]; exact hw') hK) (hy w hC))
      · exact .inl (wp_of_yTo (fun w' hw' => h _ _ (by rw [hm]; exact hw') hK) (hy k w (hk hm) hC))
    · simp only [hw, Bool.false_eq_true, if_false]
      rw [hv] at hK
      exact h _ _ (by rw [hm]; exact hC) hK

/-- The movers that are listed are the first k; whatever is listed has all that it waits for listed. -/
structure StInv (md : Region.Mode) (ops : Array Oper) (mvs : List Nat) (listed : Array Bool) (k : Nat) : Prop where
  size : listed.size = ops.size
  first : ∀ t m, mvs[t]? = some m → (listed.getD m false = true ↔ t < k)
  closed : ∀ j o, listed.getD j false = true → ops[j]? = some o → ∀ e ∈ o.after, Region.binds md e = true → listed.getD e.on false = true

/-- What is asked of the region: the movers, each in the region, each waiting for those before it; each other operation is waited for by the mover that ends its stages. -/
structure StOk (md : Region.Mode) (ops : Array Oper) (mvs : List Nat) (mv : Nat → Bool) (top : Nat → Nat) : Prop where
  mem : ∀ i : Nat, mv i = true ↔ ∃ t : Nat, mvs[t]? = some i
  nodup : ∀ t t' m : Nat, mvs[t]? = some m → mvs[t']? = some m → t = t'
  chain : ∀ t t' m m' : Nat, t < t' → mvs[t]? = some m → mvs[t']? = some m' → ∃ o, ops[m']? = some o ∧ ∃ e ∈ o.after, Region.binds md e = true ∧ e.on = m
  ends : ∀ (i : Nat) (o : Oper), ops[i]? = some o → mv i = false → mvs.length ≤ top i ∨ ∃ j oj, ops[j]? = some oj ∧ (∃ e ∈ oj.after, Region.binds md e = true ∧ e.on = i) ∧ (mvs[top i]? = some j ∨ (mv j = false ∧ i < j ∧ top j ≤ top i))

theorem getD_of {l : Array Bool} {j : Nat} (h : l.getD j true = false) : l.getD j false = false := by
  rcases Nat.lt_or_ge j l.size with h' | h'
  · simp [h'] at h ⊢; exact h
  · simp [Array.getElem?_eq_none h'] at h

theorem StInv.tops {mvs : List Nat} (ok : StOk md ops mvs mv top) {listed : Array Bool} {k : Nat} (h : StInv md ops mvs listed k) (hk : k ≤ mvs.length) : ∀ (n i : Nat) (o : Oper), ops.size ≤ i + n → ops[i]? = some o → mv i = false → listed.getD i false = false → k ≤ top i
  | 0, i, o, hn, ho, _, _ => by have := (Array.getElem?_eq_some_iff.1 ho).1; omega
  | n + 1, i, o, hn, ho, hm, hun => by
    rcases ok.ends i o ho hm with hl | ⟨j, oj, hoj, ⟨e, he, hb, heq⟩, hj | ⟨h1, h2, h3⟩⟩
    · omega
    · rcases Nat.lt_or_ge (top i) k with hlt' | hge
      · exfalso
        have h1 := (h.first (top i) j hj).2 hlt'
        have h2 := h.closed j oj h1 hoj e he hb
        rw [heq, hun] at h2
        cases h2
      · exact hge
    · have hjn : listed.getD j false = false := by
        cases hj : listed.getD j false with
        | false => rfl
        | true =>
          have h4 := h.closed j oj hj hoj e he hb
          rw [heq, hun] at h4
          cases h4
      exact Nat.le_trans (StInv.tops ok h hk n j oj (by omega) hoj h1 hjn) h3

theorem StInv.step {mvs : List Nat} (ok : StOk md ops mvs mv top) {listed : Array Bool} {k i : Nat} (h : StInv md ops mvs listed k) (hi : i ∈ Region.ready md ops listed) : StInv md ops mvs (listed.setIfInBounds i true) (nxt (mv i) k) ∧ (mv i = false → k ≤ mvs.length → k ≤ top i) := by
  obtain ⟨hun, oi, hoi, hall⟩ := mem_ready.1 hi
  have hun' := getD_of hun
  have hlt : i < listed.size := by rw [h.size]; exact (Array.getElem?_eq_some_iff.1 hoi).1
  have gs : (listed.setIfInBounds i true).getD i false = true := by simp [hlt]
  have go : ∀ j, j ≠ i → (listed.setIfInBounds i true).getD j false = listed.getD j false := fun j hj => getD_set_ne false (Ne.symm hj)
  refine ⟨⟨by simpa using h.size, ?_, ?_⟩, ?_⟩
  · intro t m hm
    cases hmi : mv i with
    | true =>
      show _ ↔ t < k + 1
      obtain ⟨ti, hti⟩ := (ok.mem i).1 hmi
      have hk1 : ¬ ti < k := fun hh => by have := (h.first ti i hti).2 hh; rw [hun'] at this; cases this
      have hk2 : ti = k := by
        rcases Nat.lt_or_ge k ti with hlt' | hge
        · have hsome : ∃ m', mvs[k]? = some m' := by
            have := (List.getElem?_eq_some_iff.1 hti).1
            exact ⟨mvs[k]'(by omega), List.getElem?_eq_getElem (by omega)⟩
          obtain ⟨m', hm'⟩ := hsome
          obtain ⟨o, ho, e, he, hb, heq⟩ := ok.chain k ti m' i hlt' hm' hti
          rw [hoi] at ho
          injection ho with ho
          subst ho
          have h1 := hall e he hb
          rw [heq] at h1
          have := (h.first k m' hm').1 h1
          omega
        · omega
      by_cases hmm : m = i
      · subst hmm
        have : t = ti := ok.nodup t ti m hm hti
        rw [gs]
        constructor
        · intro _; omega
        · intro _; rfl
      · rw [go m hmm, h.first t m hm]
        constructor
        · intro hh; omega
        · intro hh
          have : t ≠ k := fun e => hmm (by rw [e, ← hk2] at hm; rw [hti] at hm; injection hm with hm; exact hm.symm)
          omega
    | false =>
      show _ ↔ t < k
      have hmm : m ≠ i := fun e => by
        have := (ok.mem i).2 ⟨t, by rw [hm, e]⟩
        rw [hmi] at this; cases this
      rw [go m hmm]; exact h.first t m hm
  · intro j o hj ho e he hb
    refine getD_set_true ?_
    by_cases hji : j = i
    · subst hji
      rw [hoi] at ho
      injection ho with ho
      subst ho
      exact hall e he hb
    · rw [go j hji] at hj
      exact h.closed j o hj ho e he hb
  · intro hmi hkl
    exact h.tops ok hkl ops.size i oi (by omega) hoi hmi hun'

theorem StInv.kle {mvs : List Nat} (ok : StOk md ops mvs mv top) {listed : Array Bool} {k i : Nat} (h : StInv md ops mvs listed k) (hi : i ∈ Region.ready md ops listed) (hk : k ≤ mvs.length) : nxt (mv i) k ≤ mvs.length := by
  obtain ⟨hun, oi, hoi, hall⟩ := mem_ready.1 hi
  have hun' := getD_of hun
  cases hmi : mv i with
  | true =>
    show k + 1 ≤ _
    obtain ⟨ti, hti⟩ := (ok.mem i).1 hmi
    have := (List.getElem?_eq_some_iff.1 hti).1
    have hk1 : ¬ ti < k := fun hh => by have := (h.first ti i hti).2 hh; rw [hun'] at this; cases this
    omega
  | false => exact hk

theorem wpAny_of_stage {mvs : List Nat} (ok : StOk md ops mvs mv top) {Q : Nat → Act → Prop} {Q' : Exit → Act → World → Prop} (hQ : ∀ k a w, C k w → Q k a → Q' .normal a w) : ∀ (fuel : Nat) (listed : Array Bool) (k : Nat) (a : Act) (w : World), C k w →
    StInv md ops mvs listed k → k ≤ mvs.length → wpAnyT P md ops C mv top Q fuel listed k a → wpAny P md ops Q' fuel listed a w
  | 0, _, _, _, _, hw, _, _, h => ⟨h.1, hQ _ _ _ hw h.2⟩
  | fuel + 1, listed, k, a, w, hw, hI, hk, h => ⟨fun h0 => hQ _ _ _ hw (h.1 h0), fun i hi =>
      wpOp_of_sOp hw (fun hm => (hI.step ok hi).2 hm hk) (fun a' w' hw' hK => wpAny_of_stage ok hQ fuel _ _ a' w' hw' (hI.step ok hi).1 (hI.kle ok hi hk) hK)
        (by obtain ⟨_, o, ho, _⟩ := mem_ready.1 hi; rw [ho]; simp) (h.2 i hi)⟩

theorem YSt.of_same {m : Bool} {tp k : Nat} {o : Oper} {v : Value} {a a' : Act} (hy : YSt P ops C m tp k o v a) (he : execOp a'.eval o = execOp a.eval o)
    (hw : Region.wanted o (yielded ops a'.tmps) = Region.wanted o (yielded ops a.tmps)) : YSt P ops C m tp k o v a' := by
  unfold YSt yTo at *
  rw [he, hw]
  exact hy
theorem YSt.any {tp k k' : Nat} {o : Oper} {v : Value} {a : Act} (hy : YSt P ops C false tp k o v a) : YSt P ops C false tp k' o v a := by
  unfold YSt at *
  rcases hy with ⟨hw, ⟨hm, _⟩ | h⟩ | h
  · cases hm
  · exact .inl ⟨hw, .inr h⟩
  · exact .inr h

theorem sOp_put {j k tp : Nat} {oi oj : Oper} {v : Value} {mi : Bool} (hj : ops[j]? = some oj) (hap : oi.apart ops oj = true)
    (hsi : ∀ cs b, oi.op ≠ .select cs b) (hsj : ∀ cs b, oj.op ≠ .select cs b) (hone : mi = true → mv j = false) {K : Nat → Act → Prop} {a : Act}
    (hy : YSt P ops C mi tp k oi v a) (h : sOp P ops C mv top j K (nxt mi k) (a.put oi.dst v)) :
    sOp P ops C mv top j (fun k' a' => YSt P ops C mi tp k' oi v a' ∧ K (nxt mi k') (a'.put oi.dst v)) k a := by
  obtain ⟨h1, h2, h3⟩ := Oper.apart_spec hap
  have keep : ∀ (k : Nat) (a : Act), YSt P ops C mi tp k oi v a → ∀ u, YSt P ops C mi tp k oi v (a.put oj.dst u) := fun k a hy u =>
    hy.of_same (execOp_put oi hsi a oj.dst u h3) (wanted_put oi a oj.dst u h3)
  unfold sOp at *
  simp only [hj] at *
  obtain ⟨u, hu, hK⟩ := h
  have hu' : YSt P ops C (mv j) (top j) (nxt mi k) oj u a := hu.of_same (execOp_put oj hsj a oi.dst v h1).symm (wanted_put oj a oi.dst v h1).symm
  rw [Act.put_comm a v u h2] at hK
  cases hmi : mi with
  | true =>
    have hmj := hone hmi
    rw [hmj] at hu' hK ⊢
    rw [hmi] at hK hy keep
    exact ⟨u, hu'.any, keep _ a hy u, hK⟩
  | false =>
    rw [hmi] at hK hy keep hu'
    refine ⟨u, hu', keep _ a hy.any u, ?_⟩
    cases hmj : mv j <;> rw [hmj] at hK <;> exact hK

theorem wpAnyT_first {Q : Nat → Act → Prop} {i : Nat} {oi : Oper} {v : Value} (hi : ops[i]? = some oi) (hsel : ∀ (j : Nat) (o : Oper) cs b, ops[j]? = some o → o.op ≠ .select cs b) :
    ∀ (fuel : Nat) (listed : Array Bool) (k : Nat) (a : Act),
      (∀ j oj, ops[j]? = some oj → j ≠ i → listed.getD j true = false → (∀ e ∈ oj.after, Region.binds md e = true → e.on ≠ i) → oi.apart ops oj = true ∧ (mv i = true → mv j = false)) →
      i ∈ Region.ready md ops listed → YSt P ops C (mv i) (top i) k oi v a →
      wpAnyT P md ops C mv top Q fuel (listed.setIfInBounds i true) (nxt (mv i) k) (a.put oi.dst v) → wpAnyT P md ops C mv top Q (fuel + 1) listed k a := by
  intro fuel
  have take : ∀ {k : Nat} {a : Act} {K : Nat → Act → Prop}, YSt P ops C (mv i) (top i) k oi v a → K (nxt (mv i) k) (a.put oi.dst v) → sOp P ops C mv top i K k a := by
    intro k a K hy hK
    unfold sOp
    simp only [hi]
    exact ⟨v, hy, hK⟩
  induction fuel with
  | zero =>
    intro listed k a _ hr hy H
    refine ⟨fun h => (by rw [h] at hr; cases hr), fun j hj => ?_⟩
    by_cases hji : j = i
    · subst hji; exact take hy H
    · have := ready_mono hj hji
      rw [H.1] at this
      cases this
  | succ fuel ih =>
    intro listed k a hfree hr hy H
    refine ⟨fun h => (by rw [h] at hr; cases hr), fun j hj => ?_⟩
    by_cases hji : j = i
    · subst hji; exact take hy H
    · have h1 := H.2 j (ready_mono hj hji)
      obtain ⟨hjun, oj, hoj, hall⟩ := mem_ready.1 hj
      have hnot : ∀ e ∈ oj.after, Region.binds md e = true → e.on ≠ i := fun e he hb heq => by
        have h1 := hall e he hb
        have h0 := (mem_ready.1 hr).1
        rw [heq] at h1
        rcases Nat.lt_or_ge i listed.size with h' | h'
        · simp [h'] at h0 h1; rw [h0] at h1; cases h1
        · simp [Array.getElem?_eq_none h'] at h1
      obtain ⟨hap, hone⟩ := hfree j oj hoj hji hjun hnot
      have h2 := sOp_put hoj hap (fun cs b => hsel i oi cs b hi) (fun cs b => hsel j oj cs b hoj) hone hy h1
      have hfree' : ∀ k ok, ops[k]? = some ok → k ≠ i → (listed.setIfInBounds j true).getD k true = false →
          (∀ e ∈ ok.after, Region.binds md e = true → e.on ≠ i) → oi.apart ops ok = true ∧ (mv i = true → mv k = false) := fun k ok hk hki hun hno => by
        refine hfree k ok hk hki ?_ hno
        by_cases hjk : j = k
        · subst hjk; exact hjun
        · rw [getD_set_ne true hjk] at hun; exact hun
      refine sOp_mono (fun k' a' h3 => ih (listed.setIfInBounds j true) k' a' hfree' (ready_mono hr (Ne.symm hji)) h3.1 ?_) h2
      rw [Array.setIfInBounds_comm _ _ hji]
      exact h3.2

/-- The walk in the order of the text. -/
def wpStage (P : Program) (ops : Array Oper) (C : Nat → World → Prop) (mv : Nat → Bool) (top : Nat → Nat) (Q : Nat → Act → Prop) : List Oper → Nat → Nat → Act → Prop
  | [], _, k, a => Q k a
  | o :: rest, i, k, a => ∃ v, YSt P ops C (mv i) (top i) k o v a ∧ wpStage P ops C mv top Q rest (i + 1) (nxt (mv i) k) (a.put o.dst v)

/-- Of those that are not listed, whatever moves waits for operation k, if that moves. -/
def chainAt (md : Region.Mode) (ops : Array Oper) (mv : Nat → Bool) (listed : Array Bool) (i : Nat) : Bool :=
  !mv i || (List.range ops.size).all fun j => j == i || listed.getD j true || !mv j || match ops[j]? with
      | some oj => oj.after.any (fun e => Region.binds md e && e.on == i)
      | none => true
def chainFrom (md : Region.Mode) (ops : Array Oper) (mv : Nat → Bool) : Nat → Nat → Array Bool → Bool
  | 0, _, _ => true
  | fuel + 1, k, listed => chainAt md ops mv listed k && chainFrom md ops mv fuel (k + 1) (listed.setIfInBounds k true)
def waits (md : Region.Mode) (ops : Array Oper) (m i : Nat) : Bool := match ops[m]? with
  | some o => o.after.any (fun e => Region.binds md e && e.on == i)
  | none => false
def okB (md : Region.Mode) (ops : Array Oper) (mvs : List Nat) (mv : Nat → Bool) (top : Nat → Nat) : Bool :=
  (List.range mvs.length).all (fun t => (List.range t).all (fun t' => waits md ops (mvs.getD t 0) (mvs.getD t' 0) && !(mvs.getD t 0 == mvs.getD t' 0))) &&
  (List.range ops.size).all (fun i => mv i || decide (mvs.length ≤ top i) || (List.range ops.size).any (fun j => waits md ops j i && (mvs[top i]? == some j || (!mv j && decide (i < j) && decide (top j ≤ top i)))))
def stageB (ops : Array Oper) (mvs : List Nat) (top : Nat → Nat) : Bool :=
  Region.lexB .any ops && chainFrom .any ops (fun i => mvs.contains i) ops.size 0 (Array.replicate ops.size false) && okB .any ops mvs (fun i => mvs.contains i) top

theorem waits_spec {m i : Nat} (h : waits md ops m i = true) : ∃ o, ops[m]? = some o ∧ ∃ e ∈ o.after, Region.binds md e = true ∧ e.on = i := by
  unfold waits at h
  cases ho : ops[m]? with
  | none => rw [ho] at h; cases h
  | some o =>
    rw [ho] at h
    obtain ⟨e, he, hb⟩ := Array.any_eq_true'.1 h
    simp only [Bool.and_eq_true, beq_iff_eq] at hb
    exact ⟨o, rfl, e, he, hb.1, hb.2⟩
theorem okB_spec {mvs : List Nat} (h : okB md ops mvs (fun i => mvs.contains i) top = true) : StOk md ops mvs (fun i => mvs.contains i) top := by
  simp only [okB, Bool.and_eq_true, List.all_eq_true, List.mem_range, Bool.or_eq_true] at h
  obtain ⟨h1, h2⟩ := h
  have g : ∀ t m, mvs[t]? = some m → t < mvs.length ∧ mvs.getD t 0 = m := by
    intro t m hm
    refine ⟨(List.getElem?_eq_some_iff.1 hm).1, by simp [hm]⟩
  refine ⟨fun i => ?_, fun t t' m hm hm' => ?_, fun t t' m m' hlt hm hm' => ?_, fun i o ho hmi => ?_⟩
  · simp only [List.contains_iff_mem]
    exact List.mem_iff_getElem?
  · have a := g t m hm
    have b := g t' m hm'
    rcases Nat.lt_trichotomy t t' with hlt | heq | hgt
    · have := (h1 t' b.1 t hlt).2
      rw [a.2, b.2] at this; simp at this
    · exact heq
    · have := (h1 t a.1 t' hgt).2
      rw [a.2, b.2] at this; simp at this
  · have a := g t m hm
    have b := g t' m' hm'
    have := (h1 t' b.1 t hlt).1
    rw [a.2, b.2] at this
    exact waits_spec this
  · rcases h2 i (Array.getElem?_eq_some_iff.1 ho).1 with (h3 | h3) | h3
    · rw [hmi] at h3; cases h3
    · exact .inl (by simpa using h3)
    · obtain ⟨j, hj, h4⟩ := List.any_eq_true.1 h3
      simp only [Bool.and_eq_true, Bool.or_eq_true, beq_iff_eq, decide_eq_true_eq] at h4
      obtain ⟨h5, h6⟩ := h4
      obtain ⟨oj, hoj, hw⟩ := waits_spec h5
      refine .inr ⟨j, oj, hoj, hw, ?_⟩
      rcases h6 with h6 | ⟨⟨h7, h8⟩, h9⟩
      · exact .inl h6
      · exact .inr ⟨by simpa using h7, h8, h9⟩

theorem chainAt_spec {listed : Array Bool} {i j : Nat} {oj : Oper} (h : chainAt md ops mv listed i = true) (hmi : mv i = true) (hj : ops[j]? = some oj) (hne : j ≠ i) (hun : listed.getD j true = false)
    (hno : ∀ e ∈ oj.after, Region.binds md e = true → e.on ≠ i) : mv j = false := by
  simp only [chainAt, hmi, Bool.not_true, Bool.false_or, List.all_eq_true, List.mem_range] at h
  have h1 := h j (Array.getElem?_eq_some_iff.1 hj).1
  simp only [hj, Bool.or_eq_true, beq_iff_eq, hne, false_or, hun, Bool.false_eq_true] at h1
  rcases h1 with h1 | h1
  · simpa using h1
  · obtain ⟨e, he, hb⟩ := Array.any_eq_true'.1 h1
    simp only [Bool.and_eq_true, beq_iff_eq] at hb
    exact absurd hb.2 (hno e he hb.1)

theorem wpAnyT_lex {Q : Nat → Act → Prop} (hs : Region.noSelect ops = true) : ∀ (l : List Oper) (i : Nat) (listed : Array Bool) (k : Nat) (a : Act), (∀ j, l[j]? = ops[i + j]?) →
    Region.lexFrom md ops l.length i listed = true → chainFrom md ops mv l.length i listed = true → wpStage P ops C mv top Q l i k a → wpAnyT P md ops C mv top Q l.length listed k a
  | [], _, _, _, _, _, hB, _, h => ⟨by simpa [Region.lexFrom] using hB, h⟩
  | o :: l, i, listed, k, a, hl, hB, hC, h => by
    have h0 : ops[i]? = some o := by simpa using (hl 0).symm
    simp only [List.length_cons, Region.lexFrom, Bool.and_eq_true] at hB
    obtain ⟨⟨hr, hf⟩, hB'⟩ := hB
    simp only [List.length_cons, chainFrom, Bool.and_eq_true] at hC
    obtain ⟨hc, hC'⟩ := hC
    obtain ⟨v, hy, hK⟩ := h
    refine wpAnyT_first h0 (Region.noSelect_spec hs) l.length listed k a (fun j oj hj hne hun hno => ⟨Region.free_spec h0 hf j oj hj hne hun hno, fun hm => chainAt_spec hc hm hj hne hun hno⟩) (by simpa using hr) hy ?_
    exact wpAnyT_lex hs l (i + 1) _ _ _ (fun j => by have := hl (j + 1); simpa [Nat.add_assoc, Nat.add_comm 1 j] using this) hB' hC' hK

/-- One walk of the text's order serves every order. -/
theorem wp_region_stage {id : Nat} {Q : Exit → Act → World → Prop} {a : Act} {w : World} {l : List Oper} (C : Nat → World → Prop) (mvs : List Nat) (top : Nat → Nat) (hm : P.follows .mixedOrders = true) (hB : stageB l.toArray mvs top = true) (hC : C 0 w.drew)
    (h : wpStage P l.toArray C (fun i => mvs.contains i) top (fun k a' => ∀ w', C k w' → Q .normal a' w') l 0 0 a) : (Code.region id l.toArray true).wp P Q a w := by
  simp only [stageB, Region.lexB, Bool.and_eq_true] at hB
  have ok := okB_spec hB.2
  refine wp_region_any hm (wpAny_of_stage (Q := fun k a' => ∀ w', C k w' → Q .normal a' w') ok (fun _ _ w' hw' h => h w' hw') _ _ 0 _ _ hC ⟨by simp, ?_, ?_⟩ (Nat.zero_le _) ?_)
  · intro t m hm
    constructor
    · intro hh
      exfalso
      rcases Nat.lt_or_ge m l.toArray.size with h' | h'
      · simp at h'
        simp [h'] at hh
      · simp at h'
        simp [h'] at hh
    · intro hh; omega
  · intro j o hj
    exfalso
    rcases Nat.lt_or_ge j l.toArray.size with h' | h'
    · simp at h'
      simp [h'] at hj
    · simp at h'
      simp [h'] at hj
  · have := wpAnyT_lex (C := C) (mv := fun i => mvs.contains i) (top := top) (md := .any) hB.1.1.1 l 0 (Array.replicate l.toArray.size false) 0 a (by simp) (by simpa using hB.1.1.2) (by simpa using hB.1.2) h
    simpa using this

/-- One operation that does not move. -/
theorem wpStage_read {Q : Nat → Act → Prop} {a : Act} {o : Oper} {rest : List Oper} {i k : Nat} (hm : mv i = false) (hw : Region.wanted o (yielded ops a.tmps) = true)
    (h : ∃ v, (∀ k w, k ≤ top i → C k w → yTo P o a w v (C k)) ∧ wpStage P ops C mv top Q rest (i + 1) k (a.put o.dst v)) : wpStage P ops C mv top Q (o :: rest) i k a := by
  obtain ⟨v, h1, h2⟩ := h
  exact ⟨v, .inl ⟨hw, .inr ⟨hm, h1⟩⟩, by rw [hm]; exact h2⟩
/-- One that moves. -/
theorem wpStage_move {Q : Nat → Act → Prop} {a : Act} {o : Oper} {rest : List Oper} {i k : Nat} (hm : mv i = true) (hw : Region.wanted o (yielded ops a.tmps) = true)
    (h : ∃ v, (∀ w, C k w → yTo P o a w v (C (k + 1))) ∧ wpStage P ops C mv top Q rest (i + 1) (k + 1) (a.put o.dst v)) : wpStage P ops C mv top Q (o :: rest) i k a := by
  obtain ⟨v, h1, h2⟩ := h
  exact ⟨v, .inl ⟨hw, .inl ⟨hm, h1⟩⟩, by rw [hm]; exact h2⟩
end
end Go.Proofs.Qxb6602148a
