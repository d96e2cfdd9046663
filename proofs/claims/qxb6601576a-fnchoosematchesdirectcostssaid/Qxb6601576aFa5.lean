import Derived.Test.Qxb6601576aRows
import Derived.JoinedOf
import Derived.ProofKit
namespace Go.Proofs.Qxb6601576a

theorem fact_enter : Try.prog.mayEnter = true := by kernel_rfl
end Go.Proofs.Qxb6601576a
