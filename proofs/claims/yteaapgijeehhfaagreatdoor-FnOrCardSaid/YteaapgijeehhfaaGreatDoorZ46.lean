/- FnOr: the closed facts of the statement's row. -/
import Derived.Test.YteaapgijeehhfaaGreatDoorRows
import Derived.WalkKit
import Derived.ProofKit
import Derived.OpenShut
import Derived.Deep.DeepHandedRow
import Derived.SevenTiedAt
namespace Go.Proofs.YteaapgijeehhfaaGreatDoor.fnOr
open Go.ChangeShapes Go.WideShapes Go.ChangeAt Go.RowKit
theorem c1 : Tryz.pinned.checked.prog.funcNamed Rows.fnOrRow.func = some 5 := by kernel_rfl
theorem c3 : Tryz.f5.isInstance Tryz.pinned.checked.prog Rows.fnOrRow.origin Rows.fnOrRow.targs := of_decide_eq_true (by kernel_rfl)
theorem c4 : Tryz.f5.isWrapper Tryz.pinned.checked.prog Rows.fnOrRow.wrapper Rows.fnOrRow.mainSum := (by unfold Func.isWrapper; first | (rw [if_pos (by decide +kernel)]; kernel_rfl) | (rw [if_neg (by decide +kernel)]; exact ⟨rfl, rfl⟩))
theorem c2 : joinedFacts Tryz.pinned.checked.prog 5 Tryz.f5 (OpenSpec.ofChange Rows.fnOrSpec).bare Rows.fnOrRow = true := by kernel_rfl
theorem named : Tryz.prog.funcNamed "loop.example/pub-selectorsoftrees/laws.FnOr" = some 5 := by kernel_rfl
theorem quietLooks : true = Tryz.pinned.checked.prog.looks [] := by kernel_rfl
theorem noStand : ([22, 23].all fun u => !Tryz.prog.wantsStandIn u) = true := by kernel_rfl
end Go.Proofs.YteaapgijeehhfaaGreatDoor.fnOr
