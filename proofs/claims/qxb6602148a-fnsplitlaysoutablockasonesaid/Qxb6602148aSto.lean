import Derived.Test.Qxb6602148aSq
namespace Go.Proofs.Qxb6602148a
/-- An edge's target is set. -/
def PS.setTo (P : PS) (e : Nat) (v : Int) : PS := { P with to := upd P.to e v }
end Go.Proofs.Qxb6602148a
