/- FnNot: the closed facts of the statement's row. -/
import Derived.Test.YteaapgijeehhfaaGreatDoorRows
import Derived.WalkKit
import Derived.ProofKit
import Derived.OpenShut
import Derived.Deep.DeepHandedRow
import Derived.SevenTiedAt
namespace Go.Proofs.YteaapgijeehhfaaGreatDoor.fnNot
open Go.ChangeShapes Go.WideShapes Go.ChangeAt Go.RowKit
theorem c1 : Tryz.pinned.checked.prog.funcNamed Rows.fnNotRow.func = some 4 := by kernel_rfl
theorem c3 : Tryz.f4.isInstance Tryz.pinned.checked.prog Rows.fnNotRow.origin Rows.fnNotRow.targs := of_decide_eq_true (by kernel_rfl)
theorem c4 : Tryz.f4.isWrapper Tryz.pinned.checked.prog Rows.fnNotRow.wrapper Rows.fnNotRow.mainSum := (by unfold Func.isWrapper; first | (rw [if_pos (by decide +kernel)]; kernel_rfl) | (rw [if_neg (by decide +kernel)]; exact ⟨rfl, rfl⟩))
theorem c2 : joinedFacts Tryz.pinned.checked.prog 4 Tryz.f4 (OpenSpec.ofChange Rows.fnNotSpec).bare Rows.fnNotRow = true := by kernel_rfl
theorem named : Tryz.prog.funcNamed "loop.example/pub-selectorsoftrees/laws.FnNot" = some 4 := by kernel_rfl
theorem quietLooks : true = Tryz.pinned.checked.prog.looks [] := by kernel_rfl
theorem noStand : ([22, 23].all fun u => !Tryz.prog.wantsStandIn u) = true := by kernel_rfl
end Go.Proofs.YteaapgijeehhfaaGreatDoor.fnNot
