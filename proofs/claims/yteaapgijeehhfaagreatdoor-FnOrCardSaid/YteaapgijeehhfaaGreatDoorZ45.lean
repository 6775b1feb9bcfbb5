/- What is proved: the program's law FnNot answers true: for every list of selectors and every tree within the law's own limits, an element matches just one of the selectors as written and their negation, and a node that is no element matches neither.
   Conditions: those of the given card alone (arguments that stand in memory as data of the parameters' types; package variables as the row lists them). No hypothesis is added. -/
import Derived.Test.YteaapgijeehhfaaGreatDoorZ42
import Derived.Test.YteaapgijeehhfaaGreatDoorZ43
import Derived.Test.YteaapgijeehhfaaGreatDoorZ44
import Derived.Test.YteaapgijeehhfaaGreatDoorCards
import Derived.Test.YteaapgijeehhfaaGreatDoorTie
import Derived.SevenTiedAt
set_option linter.unusedSimpArgs false
set_option linter.unusedVariables false
namespace Go.Proofs.YteaapgijeehhfaaGreatDoor
open Go.ChangeShapes Go.WideShapes Go.ChangeAt Go.RowKit

theorem witness_row_shaped {H : Type} {enc : TypeId × Value → H} {C : Checked} {os : Os} {f : FuncId} {fn : Func} {s : ChangeSpec} {conds : List PathCond} {apart : Bool} {laid : List (String × DataW Unit)} (w0 : World) (args : Array Value) (fuel : Nat) (hos : w0.os = os)
    (hsh : (w0.forCall (fun _ _ => 0) ⟨#[], args, []⟩).Shaped C.prog)
    (hok : Input.okWideB C.prog (w0.forCall (fun _ _ => 0) ⟨#[], args, []⟩) f ⟨#[], args, []⟩ = true)
    (hpre : s.preB enc C.prog fn conds apart (w0.forCall (fun _ _ => 0) ⟨#[], args, []⟩).memory args fuel = true)
    (hsz : s.sizedB enc C.prog fn apart (w0.forCall (fun _ _ => 0) ⟨#[], args, []⟩).memory args fuel = true)
    (hl : laidMet C.prog laid (w0.forCall (fun _ _ => 0) ⟨#[], args, []⟩).memory) (hlH : laidMetH C.prog laid = laidMet C.prog laid) :
    ∃ (w : World) (tape : Tape) (i : Input), w.os = os ∧ (w.forCall tape i).Shaped C.prog ∧ i.vars = [] ∧ Input.okWide C.prog (w.forCall tape i) .any w.heap.size f i ∧
      (OpenSpec.ofChange s).preRow enc C.prog fn conds apart laid (w.forCall tape i).memory i.args ∧ ({} : Assume).holds C.prog (lone (Frame.enter C.prog f i.args .normal) [] (w.forCall tape i)) := by
  obtain ⟨w, tape, i, h1, h2, h3, h4, ⟨⟨h5, h6⟩, h7⟩, h8⟩ := ChangeSpec.witness_shaped (enc := enc) (C := C) (os := os) (f := f) (fn := fn) (s := s) (conds := conds) (apart := apart) (X := fun w _ => laidMetH C.prog laid w) false w0 args fuel hos hsh hok hpre hsz (by rw [hlH]; exact hl)
  exact ⟨w, tape, i, h1, h2, h3, h4, ⟨⟨h5, h6⟩, h7⟩, h8⟩
end Go.Proofs.YteaapgijeehhfaaGreatDoor
namespace Go.Proofs.YteaapgijeehhfaaGreatDoor.fnNot
open Go.ChangeShapes Go.WideShapes Go.ChangeAt Go.RowKit

set_option maxRecDepth 100000 in
theorem lifted (os : Os) (started : os.Started) (H : Type) (enc : TypeId × Value → H) (F : Stop.Interp) :
    ReturnsInHanded {} Tryz.checked os 4 .any ((OpenSpec.ofChange Rows.fnNotSpec).preRow enc Tryz.prog Tryz.f4 Rows.fnNotRow.domain false Rows.fnNotRow.laid) (((OpenSpec.ofChange Rows.fnNotSpec).at F).post enc Tryz.prog Tryz.f4 false true false false) := by
  refine returnsInHanded_of_row (C := Tryz.checked) (s := OpenSpec.ofChange Rows.fnNotSpec) Tryz.own started (by kernel_rfl) Tryz.func4
    (witness_row_shaped (C := Tryz.checked) (laidWorld os) none2 8 (World.laidAll_os _ _ _) (laid_shaped os _) (not_input os) (not_reads os enc) (not_sized os enc) (laid_met os _) (by funext w; exact MakeChecks.laidMetH_plain _ _ _ (by kernel_rfl))) ?_
  intro W base args ds gs before hval hW _ _ hsz _ hsh _
  exact notContract hval hW hsz hsh

theorem said : Rows.FnNotSaid :=
  OpenClaim.holds_of_cond 4 Tryz.f4 rfl rfl rfl rfl rfl rfl rfl ⟨rfl, rfl, rfl, rfl, rfl⟩ rfl rfl rfl rfl rfl c1 Tryz.func4 c2 c3 c4
    (fun os started H enc _ F => by rw [OpenClaim.pre_eq_preRow]; exact lifted os started H enc F)

/-- ████ THE CARD ████ -/
theorem card : Rows.FnNotCardSaid :=
  Claim7.holds_tied_plain_at .later [] _ _ _ _ said (fun _ h => by cases h) (by kernel_rfl) (fun _ h => by cases h) fnNot_row_tie rfl ⟨rfl, rfl⟩ (by kernel_rfl) rfl
    (fun f fn hf hfn => by
      obtain rfl : f = 4 := (Option.some.inj (named.symm.trans hf)).symm
      obtain rfl : fn = Tryz.f4 := (Option.some.inj (Tryz.func4.symm.trans hfn)).symm
      exact ⟨quietLooks, fun j t ht => by
        rw [Tryz.params4] at ht
        have hm : t ∈ [22, 23] := by simpa using Array.mem_of_getElem? ht
        exact (show Tryz.prog.wantsStandIn t = false by simpa using List.all_eq_true.1 noStand t hm)⟩)
    (by kernel_rfl)
end Go.Proofs.YteaapgijeehhfaaGreatDoor.fnNot
