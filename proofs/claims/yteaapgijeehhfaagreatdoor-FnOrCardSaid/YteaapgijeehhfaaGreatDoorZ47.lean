/- What is proved: the program's law FnOr answers true: for every two lists of selectors and every tree within the law's own limits, a node matches the two texts joined by a comma exactly when it matches one of them.
   Conditions: those of the given card alone (arguments that stand in memory as data of the parameters' types; package variables as the row lists them). No hypothesis is added. -/
import Derived.Test.YteaapgijeehhfaaGreatDoorZ41
import Derived.Test.YteaapgijeehhfaaGreatDoorZ45
import Derived.Test.YteaapgijeehhfaaGreatDoorZ46
set_option linter.unusedSimpArgs false
set_option linter.unusedVariables false
namespace Go.Proofs.YteaapgijeehhfaaGreatDoor
open Go.ChangeShapes Go.WideShapes Go.ChangeAt Go.RowKit

theorem fine_vars_or : fineVars Rows.fnOrSpec.vars = true := by kernel_rfl
theorem fine_params5 : ∀ t ∈ Tryz.f5.params.toList, fineT t = true := by
  rw [Tryz.params5]
  intro t ht
  have h2 : t = 22 ∨ t = 23 := by
    have h3 : t = 22 ∨ t = 22 ∨ t = 23 := by simpa using ht
    rcases h3 with h | h | h
    · exact .inl h
    · exact .inl h
    · exact .inr h
  rcases h2 with rfl | rfl
  · exact fine22
  · exact fine23
theorem result5 : Tryz.f5.resultTypes = #[4] := by kernel_rfl

section
variable {H : Type} {enc : TypeId × Value → H}
set_option maxRecDepth 100000 in
theorem orContract {W : World} {base : Nat} {args : Array Value} {ds gs : List (DataW H)} {before : List MemPlace} {vts : List TypeId}
    (hval : ∀ (j : Nat) t v, Tryz.f5.params[j]? = some t → args[j]? = some v → Value.okWide Tryz.prog W .any base t v)
    (hW : DataW.Whole enc Tryz.prog Tryz.f5.params.toList Rows.fnOrSpec.vars false W args.toList ds gs before)
    (hsz : (DataW.weightsEach Tryz.prog (Tryz.f5.params.toList ++ vts) (ds ++ gs)).all (· ≤ reachBytes) = true) (hsh : W.ShapedOpen Tryz.prog) :
    Calls Tryz.prog 5 args W fun e W' => ∃ v, e = .returned v ∧ Rows.fnOrSpec.post enc Tryz.prog Tryz.f5 false true false false W args v W' := by
  have hW' := hW
  obtain ⟨p, q, hA0, hV, rfl, hfz, hnd⟩ := hW
  have hA : DataW.TrodAll enc Tryz.prog W 0 (fun _ => true) true Tryz.f5.params.toList args.toList ds p := hA0
  rw [Tryz.params5] at hA hval
  rw [show Tryz.f5.params.toList = [22, 22, 23] from by rw [Tryz.params5]] at hsz
  obtain ⟨v0, vs0, d0, ds0, p0, q0, hargs, rfl, rfl, ⟨n0, h0⟩, r0⟩ := trodAll_cons hA
  obtain ⟨v1, vs1, d1, ds1, p1, q1, rfl, rfl, rfl, ⟨n1, h1⟩, r1⟩ := trodAll_cons r0
  obtain ⟨v2, vs2, d2, ds2, p2, q2, rfl, rfl, rfl, ⟨n2, h2⟩, r2⟩ := trodAll_cons r1
  obtain ⟨rfl, rfl, rfl⟩ := trodAll_nil r2
  obtain rfl : args = #[v0, v1, v2] := by cases args; simp_all
  have w0 := weights_at (j := 0) hsz rfl rfl
  have w1 := weights_at (j := 1) hsz rfl rfl
  have w2 := weights_at (j := 2) hsz rfl rfl
  obtain ⟨x0, g, e0, hg⟩ := read_group n0 n0 (Nat.le_refl _) h0 w0
  obtain ⟨x1, g2, e1, hg2⟩ := read_group n1 n1 (Nat.le_refl _) h1 w1
  obtain ⟨x2, nl, e2, ht⟩ := read_tree h2 w2
  have ee0 := slice_arg Tryz.underlying22 (hval 0 22 v0 rfl rfl) e0
  have ee1 := slice_arg Tryz.underlying22 (hval 1 22 v1 rfl rfl) e1
  have ee2 := slice_arg Tryz.underlying23 (hval 2 23 v2 rfl rfl) e2
  subst ee0 ee1 ee2
  obtain ⟨T, hT⟩ := table_of hsh
  obtain ⟨u0, u1, u2, hgs⟩ : ∃ u0 u1 u2, gs = [u0, u1, u2] := by
    have hl : gs.length = 3 := by
      have : ∀ {ns : List String} {gs : List (DataW H)} {ps : List MemPlace}, DataW.TrodVars enc Tryz.prog W (fun _ => true) ns gs ps → gs.length = ns.length := by
        intro ns
        induction ns with
        | nil => intro gs ps h; cases gs with | nil => rfl | cons a l => exact h.elim
        | cons n ns ih => intro gs ps h; cases gs with | nil => exact h.elim | cons a l => obtain ⟨_, _, _, _, _, _, _, _, _, _, h5, _⟩ := h; simp [ih h5]
      exact this hV
    match gs, hl with
    | [a, b, c], _ => exact ⟨a, b, c, rfl⟩
  subst hgs
  refine (fnOr_any T _ _ _ _ _ W v0 v1 v2 g g2 nl hg hg2 ht hT).mono fun e W' ⟨he, hb⟩ => ?_
  subst he
  exact ⟨_, rfl, post_below hb hW' fine_params5 fine_vars_or result5 rfl⟩
end
end Go.Proofs.YteaapgijeehhfaaGreatDoor
namespace Go.Proofs.YteaapgijeehhfaaGreatDoor.fnOr
open Go.ChangeShapes Go.WideShapes Go.ChangeAt Go.RowKit

set_option maxRecDepth 100000 in
theorem lifted (os : Os) (started : os.Started) (H : Type) (enc : TypeId × Value → H) (F : Stop.Interp) :
    ReturnsInHanded {} Tryz.checked os 5 .any ((OpenSpec.ofChange Rows.fnOrSpec).preRow enc Tryz.prog Tryz.f5 Rows.fnOrRow.domain false Rows.fnOrRow.laid) (((OpenSpec.ofChange Rows.fnOrSpec).at F).post enc Tryz.prog Tryz.f5 false true false false) := by
  refine returnsInHanded_of_row (C := Tryz.checked) (s := OpenSpec.ofChange Rows.fnOrSpec) Tryz.own started (by kernel_rfl) Tryz.func5
    (witness_row_shaped (C := Tryz.checked) (laidWorld os) none3 8 (World.laidAll_os _ _ _) (laid_shaped os _) (or_input os) (or_reads os enc) (or_sized os enc) (laid_met os _) (by funext w; exact MakeChecks.laidMetH_plain _ _ _ (by kernel_rfl))) ?_
  intro W base args ds gs before hval hW _ _ hsz _ hsh _
  exact orContract hval hW hsz hsh

theorem said : Rows.FnOrSaid :=
  OpenClaim.holds_of_cond 5 Tryz.f5 rfl rfl rfl rfl rfl rfl rfl ⟨rfl, rfl, rfl, rfl, rfl⟩ rfl rfl rfl rfl rfl c1 Tryz.func5 c2 c3 c4
    (fun os started H enc _ F => by rw [OpenClaim.pre_eq_preRow]; exact lifted os started H enc F)

/-- ████ THE CARD ████ -/
theorem card : Rows.FnOrCardSaid :=
  Claim7.holds_tied_plain_at .later [] _ _ _ _ said (fun _ h => by cases h) (by kernel_rfl) (fun _ h => by cases h) fnOr_row_tie rfl ⟨rfl, rfl⟩ (by kernel_rfl) rfl
    (fun f fn hf hfn => by
      obtain rfl : f = 5 := (Option.some.inj (named.symm.trans hf)).symm
      obtain rfl : fn = Tryz.f5 := (Option.some.inj (Tryz.func5.symm.trans hfn)).symm
      exact ⟨quietLooks, fun j t ht => by
        rw [Tryz.params5] at ht
        have hm : t ∈ [22, 23] := by simpa using Array.mem_of_getElem? ht
        exact (show Tryz.prog.wantsStandIn t = false by simpa using List.all_eq_true.1 noStand t hm)⟩)
    (by kernel_rfl)
end Go.Proofs.YteaapgijeehhfaaGreatDoor.fnOr
