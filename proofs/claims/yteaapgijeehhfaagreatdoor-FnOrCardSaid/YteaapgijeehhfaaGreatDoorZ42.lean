/- FnNot: the statement's row. -/
import Derived.Test.YteaapgijeehhfaaGreatDoorZ41
import Derived.Lib.LaidTab
set_option linter.unusedSimpArgs false
set_option linter.unusedVariables false
namespace Go.Proofs.YteaapgijeehhfaaGreatDoor
open Go.ChangeShapes Go.WideShapes Go.RowKit

theorem Tryz.own : ownKnob Tryz.prog.godebug = none := by kernel_rfl
theorem fine22 : fineT 22 = true := by kernel_rfl
theorem fine23 : fineT 23 = true := by kernel_rfl
theorem fine_vars : fineVars Rows.fnNotSpec.vars = true := by kernel_rfl

theorem fine_params4 : ∀ t ∈ Tryz.f4.params.toList, fineT t = true := by
  rw [Tryz.params4]
  intro t ht
  have h2 : t = 22 ∨ t = 23 := by simpa using ht
  rcases h2 with rfl | rfl
  · exact fine22
  · exact fine23
theorem result4 : Tryz.f4.resultTypes = #[4] := by kernel_rfl

section
variable {H : Type} {enc : TypeId × Value → H}
set_option maxRecDepth 100000 in
/-- An argument whose type is a slice is one cell. -/
theorem slice_arg {W : World} {base : Nat} {t e : TypeId} {v x : Value} (hu : Tryz.prog.underlying t = some (.slice e)) (hval : Value.okWide Tryz.prog W .any base t v) (h : v.cells.toList = [x]) : v = x := by
  cases v with
  | agg cs =>
    unfold Value.okWide at hval
    rw [hu] at hval
    simp only [Cell.okWide, Cell.ok, hu] at hval
  | _ => simpa [Value.cells] using h

theorem weights_at {ts : List TypeId} {ds : List (DataW H)} {j : Nat} {t : TypeId} {d : DataW H} (hsz : (DataW.weightsEach Tryz.prog ts ds).all (· ≤ reachBytes) = true) (ht : ts[j]? = some t) (hd : ds[j]? = some d) : ∀ n ∈ d.weights Tryz.prog t, n ≤ reachBytes :=
  fun n hn => by simpa using List.all_eq_true.1 hsz n (DataW.weights_mem_each ht hd n hn)

set_option maxRecDepth 100000 in
theorem notContract {W : World} {base : Nat} {args : Array Value} {ds gs : List (DataW H)} {before : List MemPlace} {vts : List TypeId}
    (hval : ∀ (j : Nat) t v, Tryz.f4.params[j]? = some t → args[j]? = some v → Value.okWide Tryz.prog W .any base t v)
    (hW : DataW.Whole enc Tryz.prog Tryz.f4.params.toList Rows.fnNotSpec.vars false W args.toList ds gs before)
    (hsz : (DataW.weightsEach Tryz.prog (Tryz.f4.params.toList ++ vts) (ds ++ gs)).all (· ≤ reachBytes) = true) (hsh : W.ShapedOpen Tryz.prog) :
    Calls Tryz.prog 4 args W fun e W' => ∃ v, e = .returned v ∧ Rows.fnNotSpec.post enc Tryz.prog Tryz.f4 false true false false W args v W' := by
  have hW' := hW
  obtain ⟨p, q, hA0, hV, rfl, hfz, hnd⟩ := hW
  have hA : DataW.TrodAll enc Tryz.prog W 0 (fun _ => true) true Tryz.f4.params.toList args.toList ds p := hA0
  rw [Tryz.params4] at hA hval
  rw [show Tryz.f4.params.toList = [22, 23] from by rw [Tryz.params4]] at hsz
  obtain ⟨v0, vs0, d0, ds0, p0, q0, hargs, rfl, rfl, ⟨n0, h0⟩, r0⟩ := trodAll_cons hA
  obtain ⟨v1, vs1, d1, ds1, p1, q1, rfl, rfl, rfl, ⟨n1, h1⟩, r1⟩ := trodAll_cons r0
  obtain ⟨rfl, rfl, rfl⟩ := trodAll_nil r1
  obtain rfl : args = #[v0, v1] := by cases args; simp_all
  have w0 := weights_at (j := 0) hsz rfl rfl
  have w1 := weights_at (j := 1) hsz rfl rfl
  obtain ⟨x0, g, e0, hg⟩ := read_group n0 n0 (Nat.le_refl _) h0 w0
  obtain ⟨x1, nl, e1, ht⟩ := read_tree h1 w1
  have ee0 := slice_arg Tryz.underlying22 (hval 0 22 v0 rfl rfl) e0
  have ee1 := slice_arg Tryz.underlying23 (hval 1 23 v1 rfl rfl) e1
  subst ee0 ee1
  obtain ⟨T, hT⟩ := table_of hsh
  obtain ⟨u0, u1, u2, hgs⟩ : ∃ u0 u1 u2, gs = [u0, u1, u2] := by
    have hl : gs.length = 3 := by
      have : ∀ {ns : List String} {gs : List (DataW H)} {ps : List MemPlace}, DataW.TrodVars enc Tryz.prog W (fun _ => true) ns gs ps → gs.length = ns.length := by
        intro ns
        induction ns with
        | nil => intro gs ps h; cases gs with | nil => rfl | cons a l => exact h.elim
        | cons n ns ih => intro gs ps h; cases gs with | nil => exact h.elim | cons a l => obtain ⟨_, _, _, _, _, _, _, _, _, _, h5, _⟩ := h; simp [ih h5]
      exact this hV
    match gs, hl with
    | [a, b, c], _ => exact ⟨a, b, c, rfl⟩
  subst hgs
  refine (fnNot_any T _ _ _ W v0 v1 g nl hg ht hT).mono fun e W' ⟨he, hb⟩ => ?_
  subst he
  exact ⟨_, rfl, post_below hb hW' fine_params4 fine_vars result4 rfl⟩
end
end Go.Proofs.YteaapgijeehhfaaGreatDoor
