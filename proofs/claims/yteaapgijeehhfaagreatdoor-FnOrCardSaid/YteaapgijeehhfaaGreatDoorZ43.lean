/- FnNot, FnOr: a world for the witness. -/
import Derived.Test.YteaapgijeehhfaaGreatDoorRows
import Derived.Lay
import Derived.WalkKit
import Derived.ProofKit
import Derived.OpenShut
import Derived.Deep.DeepHandedRow
namespace Go.Proofs.YteaapgijeehhfaaGreatDoor
open Go.ChangeShapes Go.WideShapes Go.ChangeAt Go.RowKit

/-- The listed variables hold what their initialisers lay. -/
noncomputable def laidWorld (os : Os) : World := World.laidAll Tryz.prog os Rows.fnNotRow.laid
set_option maxRecDepth 100000 in
theorem laid_met (os : Os) (args : Array Value) : laidMet Tryz.prog Rows.fnNotRow.laid ((laidWorld os).forCall (fun _ _ => 0) ⟨#[], args, []⟩).memory :=
  laidMet_laidAll args (by kernel_rfl) (by kernel_rfl)
set_option maxRecDepth 100000 in
theorem laid_shaped (os : Os) (args : Array Value) : ((laidWorld os).forCall (fun _ _ => 0) ⟨#[], args, []⟩).Shaped Tryz.prog :=
  World.shaped_of_ZipB (by kernel_rfl) (by kernel_rfl)

def none2 : Array Value := #[.slice none 0 0, .slice none 0 0]
def none3 : Array Value := #[.slice none 0 0, .slice none 0 0, .slice none 0 0]

set_option maxRecDepth 100000 in
theorem not_input (os : Os) : Input.okWideB Tryz.prog ((laidWorld os).forCall (fun _ _ => 0) ⟨#[], none2, []⟩) 4 ⟨#[], none2, []⟩ = true := by kernel_rfl
set_option maxRecDepth 100000 in
theorem or_input (os : Os) : Input.okWideB Tryz.prog ((laidWorld os).forCall (fun _ _ => 0) ⟨#[], none3, []⟩) 5 ⟨#[], none3, []⟩ = true := by kernel_rfl
set_option maxRecDepth 100000 in
theorem not_reads (os : Os) {H : Type} (enc : TypeId × Value → H) : Rows.fnNotSpec.preB enc Tryz.prog Tryz.f4 Rows.fnNotRow.domain false ((laidWorld os).forCall (fun _ _ => 0) ⟨#[], none2, []⟩).memory none2 8 = true := by kernel_rfl
set_option maxRecDepth 100000 in
theorem not_sized (os : Os) {H : Type} (enc : TypeId × Value → H) : Rows.fnNotSpec.sizedB enc Tryz.prog Tryz.f4 false ((laidWorld os).forCall (fun _ _ => 0) ⟨#[], none2, []⟩).memory none2 8 = true := by kernel_rfl
set_option maxRecDepth 100000 in
theorem or_reads (os : Os) {H : Type} (enc : TypeId × Value → H) : Rows.fnOrSpec.preB enc Tryz.prog Tryz.f5 Rows.fnOrRow.domain false ((laidWorld os).forCall (fun _ _ => 0) ⟨#[], none3, []⟩).memory none3 8 = true := by kernel_rfl
set_option maxRecDepth 100000 in
theorem or_sized (os : Os) {H : Type} (enc : TypeId × Value → H) : Rows.fnOrSpec.sizedB enc Tryz.prog Tryz.f5 false ((laidWorld os).forCall (fun _ _ => 0) ⟨#[], none3, []⟩).memory none3 8 = true := by kernel_rfl
end Go.Proofs.YteaapgijeehhfaaGreatDoor
