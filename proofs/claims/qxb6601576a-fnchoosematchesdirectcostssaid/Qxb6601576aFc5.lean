import Derived.Test.Qxb6601576aFa5
import Derived.Test.Qxb6601576aFb5
import Derived.Test.Qxb6601576aFd5
namespace Go.Proofs.Qxb6601576a

theorem fact_inPlace : (Rows.fnChooseMatchesDirectCostsRow.inPlace == Try.prog.inPlace 5) = true := by kernel_rfl
theorem fact_unfollowed : (Rows.fnChooseMatchesDirectCostsRow.unfollowed == Try.prog.unfollowed 5) = true := by kernel_rfl
theorem fact_recurses : (Rows.fnChooseMatchesDirectCostsRow.recurses == Try.prog.recurses 5) = true := by kernel_rfl
theorem fact_named : (Rows.fnChooseMatchesDirectCostsRow.named == Try.prog.varsNamed 5) = true := by kernel_rfl

set_option maxRecDepth 100000 in
theorem closed5 : joinedFacts Try.prog 5 Try.f5 Rows.fnChooseMatchesDirectCostsSpec Rows.fnChooseMatchesDirectCostsRow = true := by
  unfold joinedFacts
  simp only [Bool.and_eq_true]
  and_intros
  all_goals first | with_reducible exact fact_enter | with_reducible exact fact_lift | with_reducible exact fact_make | with_reducible exact fact_inPlace | with_reducible exact fact_unfollowed | with_reducible exact fact_recurses | with_reducible exact fact_named | kernel_rfl
end Go.Proofs.Qxb6601576a
