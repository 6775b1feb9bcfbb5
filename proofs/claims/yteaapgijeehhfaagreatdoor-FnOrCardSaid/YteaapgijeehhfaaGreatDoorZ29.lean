/- A region that draws its order: one operation, two that may come up. -/
import Derived.Test.YteaapgijeehhfaaGreatDoorZ18
namespace Go.Proofs.YteaapgijeehhfaaGreatDoor
open Go.RowKit

section
variable {P : Program} {ops : Array Oper} {Q : Exit → Act → World → Prop} {K : Act → World → Prop}
theorem wpOp_val {i d : Nat} {o : Oper} {v : Value} {a : Act} {w w' : World} (hi : ops[i]? = some o) (hw : Region.wanted o (yielded ops a.tmps) = true) (hd : o.dst = some d) (hrun : (execOp a.eval o).run P w = .ok (.value v) w') (h : K { a with tmps := a.tmps.setIfInBounds d v } w') :
    wpOp P ops Q i K a w := by
  unfold Go.wpOp
  simp only [hi, hw, if_true, Oper.wp, hrun, Oper.upon]
  refine .inl ?_
  rw [hd]; exact h
theorem wpOp_skip {i : Nat} {o : Oper} {a : Act} {w w' : World} (hi : ops[i]? = some o) (hw : Region.wanted o (yielded ops a.tmps) = true) (hd : o.dst = none) (hrun : (execOp a.eval o).run P w = .ok .skip w') (h : K a w') :
    wpOp P ops Q i K a w := by
  unfold Go.wpOp
  simp only [hi, hw, if_true, Oper.wp, hrun, Oper.upon]
  refine .inl ?_
  rw [hd]; exact h
theorem wpOp_enter {i d : Nat} {o : Oper} {f : FuncId} {args : Array Value} {a : Act} {w : World} (hi : ops[i]? = some o) (hw : Region.wanted o (yielded ops a.tmps) = true) (hd : o.dst = some d) (hrun : (execOp a.eval o).run P w = .ok (.enter f args) w)
    (hc : Calls P f args w fun e w' => ∃ v, e = .returned v ∧ K { a with tmps := a.tmps.setIfInBounds d v } w') : wpOp P ops Q i K a w := by
  unfold Go.wpOp
  simp only [hi, hw, if_true, Oper.wp, hrun, Oper.upon]
  refine .inl (hc.mono ?_)
  rintro e w' ⟨v, rfl, h⟩
  rw [hd]; exact h
theorem wpOp_wp {i d : Nat} {o : Oper} {a : Act} {w : World} (hi : ops[i]? = some o) (hw : Region.wanted o (yielded ops a.tmps) = true) (hd : o.dst = some d)
    (h : ∀ K' : Act → World → Prop, (∀ v w', K { a with tmps := a.tmps.setIfInBounds d v } w' → K' (a.put o.dst v) w') → Oper.wp P o a w K' Q) : wpOp P ops Q i K a w := by
  unfold Go.wpOp
  simp only [hi, hw, if_true]
  exact .inl (h K fun v w' hk => by rw [hd]; exact hk)
theorem wpAnyH_one {md : Region.Mode} {S : World → Prop} {i fuel : Nat} {listed : Array Bool} {a : Act} {w : World} (hr : Region.ready md ops listed = [i])
    (h : wpOp P ops Q i (fun a' w' => S w' ∧ wpAnyH P md ops Q S fuel (listed.setIfInBounds i true) a' w') a w) : wpAnyH P md ops Q S (fuel + 1) listed a w := by
  refine wpAnyH_all hr (by simp) fun j hj => ?_
  obtain rfl : j = i := by simpa using hj
  exact h
theorem wpAnyH_two {md : Region.Mode} {S : World → Prop} {i j fuel : Nat} {listed : Array Bool} {a : Act} {w : World} (hr : Region.ready md ops listed = [i, j])
    (h1 : wpOp P ops Q i (fun a' w' => S w' ∧ wpAnyH P md ops Q S fuel (listed.setIfInBounds i true) a' w') a w)
    (h2 : wpOp P ops Q j (fun a' w' => S w' ∧ wpAnyH P md ops Q S fuel (listed.setIfInBounds j true) a' w') a w) : wpAnyH P md ops Q S (fuel + 1) listed a w := by
  refine wpAnyH_all hr (by simp) fun k hk => ?_
  simp only [List.mem_cons, List.mem_nil_iff, or_false] at hk
  rcases hk with rfl | rfl
  · exact h1
  · exact h2
end


end Go.Proofs.YteaapgijeehhfaaGreatDoor
