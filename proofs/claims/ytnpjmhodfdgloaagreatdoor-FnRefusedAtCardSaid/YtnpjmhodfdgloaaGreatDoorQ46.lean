/- Part of the proof. -/
import Derived.Test.YtnpjmhodfdgloaaGreatDoorRows
import Derived.WalkKit
import Derived.ProofKit
import Derived.OpenShut
import Derived.JoinedOf
set_option linter.unusedVariables false
set_option linter.unusedSimpArgs false
namespace Go.Proofs.YtnpjmhodfdgloaaGreatDoor
set_option maxRecDepth 100000
set_option maxHeartbeats 32000000
theorem tD:Tryz.pinned.checked.prog.funcNamed Rows.fnRefusedRow.func=some 3:=by kernel_rfl
theorem zA:Go.joinedFacts Tryz.pinned.checked.prog 3 Tryz.f3 Rows.fnRefusedSpec Rows.fnRefusedRow=true:=of_decide_eq_true (by kernel_rfl)
theorem BW:Tryz.f3.isInstance Tryz.pinned.checked.prog Rows.fnRefusedRow.origin Rows.fnRefusedRow.targs:=of_decide_eq_true (by kernel_rfl)
theorem AF:Tryz.f3.isWrapper Tryz.pinned.checked.prog Rows.fnRefusedRow.wrapper Rows.fnRefusedRow.mainSum:=by unfold Func.isWrapper;first| (rw[if_pos (by decide +kernel)];kernel_rfl)|(rw[if_neg (by decide +kernel)];exact⟨rfl,rfl⟩)
theorem M8:Tryz.pinned.checked.prog.funcNamed Rows.fnRefusedAtRow.func=some 4:=by kernel_rfl
theorem KI:Go.joinedFacts Tryz.pinned.checked.prog 4 Tryz.f4 Rows.fnRefusedAtSpec Rows.fnRefusedAtRow=true:=of_decide_eq_true (by kernel_rfl)
theorem Nn:Tryz.f4.isInstance Tryz.pinned.checked.prog Rows.fnRefusedAtRow.origin Rows.fnRefusedAtRow.targs:=of_decide_eq_true (by kernel_rfl)
theorem M9:Tryz.f4.isWrapper Tryz.pinned.checked.prog Rows.fnRefusedAtRow.wrapper Rows.fnRefusedAtRow.mainSum:=by unfold Func.isWrapper;first| (rw[if_pos (by decide +kernel)];kernel_rfl)|(rw[if_neg (by decide +kernel)];exact⟨rfl,rfl⟩)
end Go.Proofs.YtnpjmhodfdgloaaGreatDoor
