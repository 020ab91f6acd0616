import Derived.Test.Qxb6602148aPM2
namespace Go.Proofs.Qxb6602148a
/-- Other edges, other lists, other spare slots. -/
def PS.clr (P : PS) (f t : Nat → Int) (o : Nat → Nat) (n : Nat) (r : Nat → Int) : PS := { P with fr := f, to := t, on := o, nF := n, free := r }
def PS.unmove (P : PS) (e : Nat) : PS := { P with fr := upd P.fr e (-1), to := upd P.to e (-1) }
theorem PS.unmove_eq (P : PS) (e : Nat) : P.unmove e = P.clr (upd P.fr e (-1)) (upd P.to e (-1)) P.on P.nF P.free := rfl
theorem PM.unmove {M : Fam} {P : PS} (h : PM M P) (e : Nat) : PM ((M.set 1 e (.int .i64 (-1))).set 2 e (.int .i64 (-1))) (P.unmove e) := (h.set_fr e (-1)).set_to e (-1)
def PS.move (P : PS) (e : Nat) (f t : Int) : PS := { P with fr := upd P.fr e f, to := upd P.to e t }
theorem PM.move {M : Fam} {P : PS} (h : PM M P) (e : Nat) (f t : Int) : PM ((M.set 1 e (.int .i64 f)).set 2 e (.int .i64 t)) (P.move e f t) := (h.set_fr e f).set_to e t
def PS.spare (P : PS) (u : Int) : PS := { P with nF := P.nF + 1, free := upd P.free P.nF u }
end Go.Proofs.Qxb6602148a
