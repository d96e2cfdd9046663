import Derived.Test.Qxb6601576aRows
import Derived.JoinedOf
import Derived.ProofKit
namespace Go.Proofs.Qxb6601576a

theorem fact_lift : (Rows.fnChooseMatchesDirectCostsRow.lifted == Try.prog.liftsFinal) = true := by kernel_rfl
end Go.Proofs.Qxb6601576a
