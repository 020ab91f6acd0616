/-
  'zzBuildModel': before lists are parted node by node.
-/
import Derived.Test.Qxb6602148aMs
attribute [local go_sem] Go.Proofs.Qxb6602148a.yTo Go.Proofs.Qxb6602148a.yUpon
namespace Go.Proofs.Qxb6602148a
open Go.RowKit
set_option linter.unusedVariables false
set_option linter.unusedSimpArgs false

section
variable {G : GR} {R : Nat → Nat → Bool} {x : Nat} {rt : Nat → Nat} {nc : Nat} {cn : Nat → Nat} {cl : Nat → Nat → Nat} {i : Nat} {st wh : Nat → Nat} {rd nr : Nat} {rn : Nat → Nat} {rl : Nat → Nat → Nat}
/-- Before list i is gone through. -/
def RH (G : GR) (R : Nat → Nat → Bool) (x nc : Nat) (cn : Nat → Nat) (cl : Nat → Nat → Nat) (i : Nat) (st : Nat → Nat) (rd nr : Nat) (rn : Nat → Nat) (rl : Nat → Nat → Nat) : Prop :=
  PT (Sij nc cn cl i 0) (Rl G R (x + 1)) nr rn rl ∧ ∀ v, v < G.n → st v ≤ rd
theorem RH.begin (hs : ∀ v, v < G.n → st v ≤ rd) : RH G R x nc cn cl 0 st rd 0 (fun _ => 0) (fun _ _ => 0) :=
  ⟨PT.nil (fun f h => by obtain ⟨i', j', h1, _⟩ := h; omega) _ _ _, hs⟩
theorem RH.enter (h : RH G R x nc cn cl i st rd nr rn rl) (rt wh : Nat → Nat) : RP G R x rt nc cn cl i 0 st wh (rd + 1) nr rn rl :=
  ⟨h.1, fun v hv => Nat.le_succ_of_le (h.2 v hv), fun v hv e => by have := h.2 v hv; omega, fun j' h => absurd h (Nat.not_lt_zero _)⟩
theorem RP.leave (h : RP G R x rt nc cn cl i (cn i) st wh rd nr rn rl) (hi : i < nc) : RH G R x nc cn cl (i + 1) st rd nr rn rl :=
  ⟨(h.next hi).pt, h.s1⟩
theorem RH.done (hc : PT (Sb G R G.E) (Rl G R x) nc cn cl) (h : RH G R x nc cn cl nc st rd nr rn rl) : PT (Sb G R G.E) (Rl G R (x + 1)) nr rn rl :=
  (h.enter (fun v => v) (fun v => v)).done hc
end

/-- The memory while lists are parted: rows 8 parent, 9 stamp, 10 where. -/
structure XB (w0 : World) (G : GR) (ga gm g0 g1 g2 g3 : Nat) (R : Nat → Nat → Bool) (g8 g9 g10 : Nat) (par st wh : Nat → Nat) (D : Fam) (w : World) : Prop where
  ds : DGr w0 G ga gm g0 g1 g2 g3 (fun _ => -1) (G.ocb R) D w
  b8 : D.b 8 = some g8
  c8 : D.cap 8 = G.n
  i8 : Ints D 8 G.n (fun v => ((par v : Nat) : Int))
  b9 : D.b 9 = some g9
  i9 : Ints D 9 G.n (fun v => ((st v : Nat) : Int))
  b10 : D.b 10 = some g10
  i10 : Ints D 10 G.n (fun v => ((wh v : Nat) : Int))
/-- ... with the lists. -/
structure XAl (w0 : World) (G : GR) (ga gm g0 g1 g2 g3 : Nat) (R : Nat → Nat → Bool) (g8 g9 g10 : Nat) (par st wh : Nat → Nat) (v20 : Value) (B nc : Nat) (cn : Nat → Nat) (cl : Nat → Nat → Nat) (D : Fam) (w : World) : Prop where
  xb : XB w0 G ga gm g0 g1 g2 g3 R g8 g9 g10 par st wh D w
  v7 : D.val 7 = v20
  l7 : LSt D 7 B nc cn cl
structure FX (a0 : Option Addr) (n k0 ga gm E g8 g9 g10 : Nat) (a : Act) : Prop where
  fe : FE a0 n k0 ga gm E a
  s25 : a.tmps.getD 25 undef = .slice (some ⟨g8, 0, none⟩) n n
  s26 : a.tmps.getD 26 undef = .slice (some ⟨g9, 0, none⟩) n n
  s27 : a.tmps.getD 27 undef = .slice (some ⟨g10, 0, none⟩) n n
/-- Before the round of node x. -/
def XHI (w0 : World) (G : GR) (ga gm g0 g1 g2 g3 : Nat) (R : Nat → Nat → Bool) (g8 g9 g10 x rd : Nat) (v20 : Value) (w : World) : Prop :=
  ∃ par st wh B nc cn cl D, XAl w0 G ga gm g0 g1 g2 g3 R g8 g9 g10 par st wh v20 B nc cn cl D w ∧ PT (Sb G R G.E) (Rl G R x) nc cn cl ∧ ∀ v, v < G.n → st v ≤ rd
set_option maxRecDepth 40000 in
set_option maxHeartbeats 4000000 in
/-- Regions 70 to 73. -/
theorem md_12 (w0 : World) (G : GR) (a0 : Option Addr) (k0 ga gm g0 g1 g2 g3 g4 m : Nat) (ok : G.Ok) (R : Nat → Nat → Bool) (g6 : Nat) (v20 : Value) (wr : World) (hI : GGI w0 G ga gm g0 g1 g2 g3 g4 R g6 G.E v20 wr) (a : Act) (hf : FG a0 G.n k0 ga gm G.E g4 m g6 a) (h20 : a.tmps.getD 20 undef = v20) (tail : Code) (Z : Ending → World → Prop)
    (hT : ∀ (a : Act) (w' : World) (g8 g9 g10 : Nat), FX a0 G.n k0 ga gm G.E g8 g9 g10 a → a.tmps.getD 20 undef = v20 → a.tmps.getD 28 undef = .int .i64 0 → XHI w0 G ga gm g0 g1 g2 g3 R g8 g9 g10 0 0 v20 w' → Code.wp Try.prog tail (bodyPost Try.prog Try.f10 fun e w' => Z e w') a w') :
    Code.wp Try.prog (rt 4 (tl 20 (Try.f10.body.getD .skip)) tail) (bodyPost Try.prog Try.f10 fun e w' => Z e w') a wr := by
  obtain ⟨y, rfl⟩ := lith20 hf.fs.fe.fm.sz hf.fs.fe.fm.df hf.fs.fe.fm.s0 hf.fs.fe.fm.s2 hf.fs.fe.fm.s3 hf.fs.fe.fm.s4 hf.fs.fe.s5 hf.fs.s10 hf.s18 h20
  obtain ⟨i3, hi3, hz30, hz31, hz32⟩ := info_parts Try.info3
  have hn := ok.n
  obtain ⟨mq, hmq, hfq⟩ := make_fun (P := Try.prog) 26 3 i3 (.int .i64 0) 1 8 (.int .i64 0) Try.underlying26 hi3 hz30 hz31 hz32 rfl (by decide) zero1 G.n (by omega) (by omega)
  have HTL : Hid (∀ (a : Act) (w' : World) (g8 g9 g10 : Nat), FX a0 G.n k0 ga gm G.E g8 g9 g10 a → a.tmps.getD 20 undef = v20 → a.tmps.getD 28 undef = .int .i64 0 → XHI w0 G ga gm g0 g1 g2 g3 R g8 g9 g10 0 0 v20 w' → Code.wp Try.prog tail (bodyPost Try.prog Try.f10 fun e w' => Z e w') a w') := hT
  have fin0 : ∀ g8 g9 g10 w1 w2 w3, Fresh wr w1 3 1 g8 G.n G.n (fun _ => .int .i64 0) → Fresh w1 w2 3 1 g9 G.n G.n (fun _ => .int .i64 0) → Fresh w2 w3 3 1 g10 G.n G.n (fun _ => .int .i64 0) → XHI w0 G ga gm g0 g1 g2 g3 R g8 g9 g10 0 0 v20 w3 := by
    intro g8 g9 g10 w1 w2 w3 f1 f2 f3
    obtain ⟨gof, nc, cn, cl, D, hS, hP⟩ := hI
    have d1 := DS.freshA (r := 8) hS.rm.ds ⟨by omega, by omega, by omega⟩ rfl f1
    have d2 := DS.freshA (r := 9) d1 ⟨by omega, by omega, by omega⟩ rfl f2
    have d3 := DS.freshA (r := 10) d2 ⟨by omega, by omega, by omega⟩ rfl f3
    refine ⟨fun _ => 0, fun _ => 0, fun _ => 0, 0, nc, cn, cl, _, ⟨⟨d3, ?_, ?_, ?_, ?_, ?_, put_bs, ⟨put_ns, fun j hj => by rw [put_Fs]; rfl⟩⟩, ?_, ?_⟩, hP.pt.congr (fun _ => Iff.rfl) (fun _ _ _ _ => Rl.zero.symm), fun v hv => Nat.le_refl _⟩
    · rw [put_b (by omega), put_b (by omega), put_bs]
    · rw [put_cap (by omega), put_cap (by omega)]; simp [Fam.put]
    · exact Ints.put_ne (Ints.put_ne ⟨put_ns, fun j hj => by rw [put_Fs]; rfl⟩ (by omega)) (by omega)
    · rw [put_b (by omega), put_bs]
    · exact Ints.put_ne ⟨put_ns, fun j hj => by rw [put_Fs]; rfl⟩ (by omega)
    · rw [put_val (by omega), put_val (by omega), put_val (by omega)]; exact hS.v7
    · exact ((hS.ls.put_ne (by omega) (by omega)).put_ne (by omega) (by omega)).put_ne (by omega) (by omega)
  have fin : Hid (XHI w0 G ga gm g0 g1 g2 g3 R wr.heap.size (mq wr).heap.size (mq (mq wr)).heap.size 0 0 v20 (mq (mq (mq wr)))) := fin0 _ _ _ _ _ _ (hfq wr) (hfq _) (hfq _)
  clear hT hI hf hfq hi3 hz30 hz31 hz32 fin0 h20
  simp only [tl, rt, Try.f10, Option.getD]
  go_wp2
  exact HTL.out _ _ wr.heap.size (mq wr).heap.size (mq (mq wr)).heap.size ⟨⟨⟨by kernel_rfl, by kernel_rfl, by kernel_rfl, by kernel_rfl, by kernel_rfl, by kernel_rfl⟩, by kernel_rfl⟩, by kernel_rfl, by kernel_rfl, by kernel_rfl⟩ (by kernel_rfl) (by kernel_rfl) fin.out
end Go.Proofs.Qxb6602148a
