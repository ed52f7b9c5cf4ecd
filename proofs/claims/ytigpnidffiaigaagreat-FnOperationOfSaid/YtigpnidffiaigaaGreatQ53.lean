/- The row: the program's own facts that the law's statement asks for. -/
import Derived.Test.YtigpnidffiaigaaGreatRows
import Derived.WalkKit
import Derived.ProofKit
import Derived.OpenShut
import Derived.JoinedOf
namespace Go.Proofs.YtigpnidffiaigaaGreat

section
theorem fact_named : Tryz.pinned.checked.prog.funcNamed Rows.fnOperationOfRow.func = some 3 := by kernel_rfl
theorem fact_joined : Go.joinedFacts Tryz.pinned.checked.prog 3 Tryz.f3 Rows.fnOperationOfSpec Rows.fnOperationOfRow = true := of_decide_eq_true (by kernel_rfl)
theorem fact_inst : Tryz.f3.isInstance Tryz.pinned.checked.prog Rows.fnOperationOfRow.origin Rows.fnOperationOfRow.targs := of_decide_eq_true (by kernel_rfl)
theorem fact_plain : Tryz.f3.isWrapper Tryz.pinned.checked.prog Rows.fnOperationOfRow.wrapper Rows.fnOperationOfRow.mainSum := by
  unfold Func.isWrapper; first | (rw [if_pos (by decide +kernel)]; kernel_rfl) | (rw [if_neg (by decide +kernel)]; exact ⟨rfl, rfl⟩)

end

end Go.Proofs.YtigpnidffiaigaaGreat
