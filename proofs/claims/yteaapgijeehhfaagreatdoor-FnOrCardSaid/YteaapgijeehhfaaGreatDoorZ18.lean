/- The joins of compounds: child; printed by genchild.py. -/
/- The joins of compounds: siblings. -/
/- combinedSelector.Match. -/
import Derived.Test.YteaapgijeehhfaaGreatDoorZ17
import Derived.Deep.RegionHeld3
namespace Go.Proofs.YteaapgijeehhfaaGreatDoor
open Go.RowKit

theorem below_step {w a b : World} (h : Below w.heap.size w a) (k : Below a.heap.size a b) : Below w.heap.size w b := h.trans (k.mono h.size)

section
variable {P : Program} {ops : Array Oper} {Q : Exit → Act → World → Prop} {md : Region.Mode} {S : World → Prop}
/-- A call in a region that draws its order, where it alone may come up. -/
theorem wpAnyH_enter {i d : Nat} {fuel : Nat} {listed : Array Bool} {a : Act} {w : World} {o : Oper} {f : FuncId} {args : Array Value}
    (hi : ops[i]? = some o) (hd : o.dst = some d) (hr : Region.ready md ops listed = [i]) (hw : Region.wanted o (yielded ops a.tmps) = true) (hrun : (execOp a.eval o).run P w = .ok (.enter f args) w)
    (hc : Calls P f args w fun e w' => ∃ v, e = .returned v ∧ S w' ∧ (S w' → wpAnyH P md ops Q S fuel (listed.setIfInBounds i true) { a with tmps := a.tmps.setIfInBounds d v } w')) : wpAnyH P md ops Q S (fuel + 1) listed a w := by
  refine wpAnyH_all hr (by simp) fun j hj => ?_
  obtain rfl : j = i := by simpa using hj
  unfold Go.wpOp
  simp only [hi, hw, if_true, Oper.wp, hrun, Oper.upon]
  refine .inl (hc.mono ?_)
  rintro e w' ⟨v, rfl, hS, h⟩
  refine ⟨hS, ?_⟩
  have h2 := h hS
  rw [hd]; exact h2
theorem wpAnyH_take1 {i d : Nat} {oi : Oper} {v : Value} {fuel : Nat} {listed : Array Bool} {a : Act} {w : World} (hi : ops[i]? = some oi) (hd : oi.dst = some d)
    (hs : Region.noSelect ops = true) (hf : Region.free md ops listed i = true) (hr : (Region.ready md ops listed).contains i = true)
    (hQ : ∀ c a w, Q (.panic c) (a.put oi.dst v) w → Q (.panic c) a w) (hy : YieldsIf P ops S oi v a) (hS : S w)
    (h : wpAnyH P md ops Q S fuel (listed.setIfInBounds i true) { a with tmps := a.tmps.setIfInBounds d v } w) : wpAnyH P md ops Q S (fuel + 1) listed a w := by
  refine wpAnyH_take hi hs hf hr hQ hy hS ?_
  rw [hd]; exact h
end

def childOf (t : List Nk) (ma md : Nat → Bool) (i : Nat) : Bool := md i && (match par t i with | none => false | some p => ma p)

set_option maxRecDepth 100000 in
set_option maxHeartbeats 4000000 in
theorem childMatch_any (w : World) (bl : Nat → Nat) (t : List Nk) (va vd : Value) (ma md : Nat → Bool) (i : Nat) (hi : i < t.length) (ht : TreeAt w bl t) (ha : SelRep t.length bl w va ma) (hd : SelRep t.length bl w vd md) :
    Calls Tryz.prog 169 #[va, vd, .pointer (some ⟨bl i, 0, none⟩)] w fun e w' => e = .returned (.bool (childOf t ma md i)) ∧ Below w.heap.size w w' := by
  obtain ⟨Ta, xa, Fa, rfl, hma, hna, hea, hca⟩ := ha
  obtain ⟨Td, xd, Fd, rfl, hmd, hnd, hed, hcd⟩ := hd
  have hcd' := hcd i
  have p0 := ht.c0 hi
  have hpl := fun p => ht.par_lt (p := p) hi
  unfold childOf
  obtain ⟨r, hr⟩ : ∃ r, md i = r := ⟨_, rfl⟩
  obtain ⟨o, ho⟩ : ∃ o, par t i = o := ⟨_, rfl⟩
  rw [hr] at hcd' ⊢
  rw [ho] at p0 hpl ⊢
  have HCD := Lib.hid (fun w' => hcd' w' hi)
  have HPL := Lib.hid hpl
  have HCA := Lib.hid hca
  clear hcd hcd' hr ht hca hpl ho
  go_enter Tryz.func169, Tryz.ntmps169
  go_wp2_with fail
  refine wp_region_held_drew (S := fun w' => w'.cell? ⟨bl i, 0, none⟩ = some (ptr bl o) ∧ Below w.heap.size w w') (by kernel_rfl) ⟨p0, (Below.refl _ _).drew⟩ (fun hHeld => ?_)
  refine wpAnyH_take1 (i := 0) (d := 7) (v := .iface Td xd) rfl rfl (by kernel_rfl) (by kernel_rfl) (by kernel_rfl) (fun _ _ _ h => h) (Or.inl ⟨by kernel_rfl, fun w' hSw => (by go_simp)⟩) (by assumption) ?_
  simp only [List.setIfInBounds_toArray, List.set_cons_zero, List.set_cons_succ]
  refine wpAnyH_take1 (i := 1) (d := 8) (v := .pointer (some ⟨bl i, 0, none⟩)) rfl rfl (by kernel_rfl) (by kernel_rfl) (by kernel_rfl) (fun _ _ _ h => h) (Or.inl ⟨by kernel_rfl, fun w' hSw => (by go_simp)⟩) (by assumption) ?_
  simp only [List.setIfInBounds_toArray, List.set_cons_zero, List.set_cons_succ]
  refine wpAnyH_enter (i := 2) (d := 9) (f := Fd) (args := #[xd, .pointer (some ⟨bl i, 0, none⟩)]) rfl rfl (by kernel_rfl) (by kernel_rfl) (by go_simp) ((HCD.out _ ((Below.refl _ _).drew)).mono ?_)
  rintro e w1 ⟨rfl, hb1⟩
  have hbw := below_step (Below.refl w.heap.size w).drew hb1
  refine ⟨_, rfl, ⟨cell_keep hb1 p0, hbw⟩, fun hHeld => ?_⟩
  simp only [List.setIfInBounds_toArray, List.set_cons_zero, List.set_cons_succ]
  cases r
  · refine wpAnyH_take1 (i := 3) (d := 10) (v := .bool false) rfl rfl (by kernel_rfl) (by kernel_rfl) (by kernel_rfl) (fun _ _ _ h => h) (Or.inl ⟨by kernel_rfl, fun w' hSw => (by go_simp)⟩) (by assumption) ?_
    simp only [List.setIfInBounds_toArray, List.set_cons_zero, List.set_cons_succ]
    refine wpAnyH_take1 (i := 4) (d := 11) (v := undef) rfl rfl (by kernel_rfl) (by kernel_rfl) (by kernel_rfl) (fun _ _ _ h => h) (Or.inr ⟨by kernel_rfl, rfl⟩) (by assumption) ?_
    simp only [List.setIfInBounds_toArray, List.set_cons_zero, List.set_cons_succ]
    refine wpAnyH_take1 (i := 5) (d := 12) (v := undef) rfl rfl (by kernel_rfl) (by kernel_rfl) (by kernel_rfl) (fun _ _ _ h => h) (Or.inr ⟨by kernel_rfl, rfl⟩) (by assumption) ?_
    simp only [List.setIfInBounds_toArray, List.set_cons_zero, List.set_cons_succ]
    refine wpAnyH_take1 (i := 6) (d := 13) (v := undef) rfl rfl (by kernel_rfl) (by kernel_rfl) (by kernel_rfl) (fun _ _ _ h => h) (Or.inr ⟨by kernel_rfl, rfl⟩) (by assumption) ?_
    simp only [List.setIfInBounds_toArray, List.set_cons_zero, List.set_cons_succ]
    refine wpAnyH_take1 (i := 7) (d := 14) (v := undef) rfl rfl (by kernel_rfl) (by kernel_rfl) (by kernel_rfl) (fun _ _ _ h => h) (Or.inr ⟨by kernel_rfl, rfl⟩) (by assumption) ?_
    simp only [List.setIfInBounds_toArray, List.set_cons_zero, List.set_cons_succ]
    refine wpAnyH_take1 (i := 8) (d := 15) (v := undef) rfl rfl (by kernel_rfl) (by kernel_rfl) (by kernel_rfl) (fun _ _ _ h => h) (Or.inr ⟨by kernel_rfl, rfl⟩) (by assumption) ?_
    simp only [List.setIfInBounds_toArray, List.set_cons_zero, List.set_cons_succ]
    refine wpAnyH_take1 (i := 9) (d := 16) (v := .bool false) rfl rfl (by kernel_rfl) (by kernel_rfl) (by kernel_rfl) (fun _ _ _ h => h) (Or.inl ⟨by kernel_rfl, fun w' hSw => (by go_simp)⟩) (by assumption) ?_
    simp only [List.setIfInBounds_toArray, List.set_cons_zero, List.set_cons_succ]
    refine wpAnyH_take1 (i := 10) (d := 17) (v := .bool false) rfl rfl (by kernel_rfl) (by kernel_rfl) (by kernel_rfl) (fun _ _ _ h => h) (Or.inl ⟨by kernel_rfl, fun w' hSw => (by go_simp)⟩) (by assumption) ?_
    simp only [List.setIfInBounds_toArray, List.set_cons_zero, List.set_cons_succ]
    refine wpAnyH_take1 (i := 11) (d := 18) (v := undef) rfl rfl (by kernel_rfl) (by kernel_rfl) (by kernel_rfl) (fun _ _ _ h => h) (Or.inr ⟨by kernel_rfl, rfl⟩) (by assumption) ?_
    simp only [List.setIfInBounds_toArray, List.set_cons_zero, List.set_cons_succ]
    refine wpAnyH_take1 (i := 12) (d := 19) (v := undef) rfl rfl (by kernel_rfl) (by kernel_rfl) (by kernel_rfl) (fun _ _ _ h => h) (Or.inr ⟨by kernel_rfl, rfl⟩) (by assumption) ?_
    simp only [List.setIfInBounds_toArray, List.set_cons_zero, List.set_cons_succ]
    refine wpAnyH_take1 (i := 13) (d := 20) (v := undef) rfl rfl (by kernel_rfl) (by kernel_rfl) (by kernel_rfl) (fun _ _ _ h => h) (Or.inr ⟨by kernel_rfl, rfl⟩) (by assumption) ?_
    simp only [List.setIfInBounds_toArray, List.set_cons_zero, List.set_cons_succ]
    refine wpAnyH_take1 (i := 14) (d := 21) (v := undef) rfl rfl (by kernel_rfl) (by kernel_rfl) (by kernel_rfl) (fun _ _ _ h => h) (Or.inr ⟨by kernel_rfl, rfl⟩) (by assumption) ?_
    simp only [List.setIfInBounds_toArray, List.set_cons_zero, List.set_cons_succ]
    refine wpAnyH_take1 (i := 15) (d := 22) (v := undef) rfl rfl (by kernel_rfl) (by kernel_rfl) (by kernel_rfl) (fun _ _ _ h => h) (Or.inr ⟨by kernel_rfl, rfl⟩) (by assumption) ?_
    simp only [List.setIfInBounds_toArray, List.set_cons_zero, List.set_cons_succ]
    refine wpAnyH_take1 (i := 16) (d := 23) (v := undef) rfl rfl (by kernel_rfl) (by kernel_rfl) (by kernel_rfl) (fun _ _ _ h => h) (Or.inr ⟨by kernel_rfl, rfl⟩) (by assumption) ?_
    simp only [List.setIfInBounds_toArray, List.set_cons_zero, List.set_cons_succ]
    refine wpAnyH_take1 (i := 17) (d := 24) (v := undef) rfl rfl (by kernel_rfl) (by kernel_rfl) (by kernel_rfl) (fun _ _ _ h => h) (Or.inr ⟨by kernel_rfl, rfl⟩) (by assumption) ?_
    simp only [List.setIfInBounds_toArray, List.set_cons_zero, List.set_cons_succ]
    refine wpAnyH_take1 (i := 18) (d := 25) (v := undef) rfl rfl (by kernel_rfl) (by kernel_rfl) (by kernel_rfl) (fun _ _ _ h => h) (Or.inr ⟨by kernel_rfl, rfl⟩) (by assumption) ?_
    simp only [List.setIfInBounds_toArray, List.set_cons_zero, List.set_cons_succ]
    refine wpAnyH_take1 (i := 19) (d := 26) (v := undef) rfl rfl (by kernel_rfl) (by kernel_rfl) (by kernel_rfl) (fun _ _ _ h => h) (Or.inr ⟨by kernel_rfl, rfl⟩) (by assumption) ?_
    simp only [List.setIfInBounds_toArray, List.set_cons_zero, List.set_cons_succ]
    refine wpAnyH_take1 (i := 20) (d := 27) (v := .bool false) rfl rfl (by kernel_rfl) (by kernel_rfl) (by kernel_rfl) (fun _ _ _ h => h) (Or.inl ⟨by kernel_rfl, fun w' hSw => (by go_simp)⟩) (by assumption) ?_
    simp only [List.setIfInBounds_toArray, List.set_cons_zero, List.set_cons_succ]
    refine wpAnyH_take1 (i := 21) (d := 6) (v := .bool false) rfl rfl (by kernel_rfl) (by kernel_rfl) (by kernel_rfl) (fun _ _ _ h => h) (Or.inl ⟨by kernel_rfl, fun w' hSw => (by go_simp)⟩) (by assumption) ?_
    simp only [List.setIfInBounds_toArray, List.set_cons_zero, List.set_cons_succ]
    refine wpAnyH_done (by kernel_rfl) ?_ _
    go_wp2_with fail
    all_goals
      go_ret
      exact ⟨rfl, hbw⟩
  · cases o with
    | none =>
      refine wpAnyH_take1 (i := 3) (d := 10) (v := .bool true) rfl rfl (by kernel_rfl) (by kernel_rfl) (by kernel_rfl) (fun _ _ _ h => h) (Or.inl ⟨by kernel_rfl, fun w' hSw => (by go_simp)⟩) (by assumption) ?_
      simp only [List.setIfInBounds_toArray, List.set_cons_zero, List.set_cons_succ]
      refine wpAnyH_take1 (i := 4) (d := 11) (v := .pointer (some ⟨bl i, 0, none⟩)) rfl rfl (by kernel_rfl) (by kernel_rfl) (by kernel_rfl) (fun _ _ _ h => h) (Or.inl ⟨by kernel_rfl, fun w' hSw => (by go_simp)⟩) (by assumption) ?_
      simp only [List.setIfInBounds_toArray, List.set_cons_zero, List.set_cons_succ]
      refine wpAnyH_take1 (i := 5) (d := 12) (v := .pointer (some ⟨bl i, 0, none⟩)) rfl rfl (by kernel_rfl) (by kernel_rfl) (by kernel_rfl) (fun _ _ _ h => h) (Or.inl ⟨by kernel_rfl, fun w' hSw => (by go_simp)⟩) (by assumption) ?_
      simp only [List.setIfInBounds_toArray, List.set_cons_zero, List.set_cons_succ]
      refine wpAnyH_take1 (i := 6) (d := 13) (v := .pointer (some ⟨bl i, 0, none⟩)) rfl rfl (by kernel_rfl) (by kernel_rfl) (by kernel_rfl) (fun _ _ _ h => h) (Or.inl ⟨by kernel_rfl, fun w' hSw => (by go_simp)⟩) (by assumption) ?_
      simp only [List.setIfInBounds_toArray, List.set_cons_zero, List.set_cons_succ]
      refine wpAnyH_take1 (i := 7) (d := 14) (v := .pointer none) rfl rfl (by kernel_rfl) (by kernel_rfl) (by kernel_rfl) (fun _ _ _ h => h) (Or.inl ⟨by kernel_rfl, fun w' hSw => (by obtain ⟨h1, _⟩ := hSw; go_simp; rfl)⟩) (by assumption) ?_
      simp only [List.setIfInBounds_toArray, List.set_cons_zero, List.set_cons_succ]
      refine wpAnyH_take1 (i := 8) (d := 15) (v := .bool false) rfl rfl (by kernel_rfl) (by kernel_rfl) (by kernel_rfl) (fun _ _ _ h => h) (Or.inl ⟨by kernel_rfl, fun w' hSw => (by go_simp)⟩) (by assumption) ?_
      simp only [List.setIfInBounds_toArray, List.set_cons_zero, List.set_cons_succ]
      refine wpAnyH_take1 (i := 9) (d := 16) (v := .bool false) rfl rfl (by kernel_rfl) (by kernel_rfl) (by kernel_rfl) (fun _ _ _ h => h) (Or.inl ⟨by kernel_rfl, fun w' hSw => (by go_simp)⟩) (by assumption) ?_
      simp only [List.setIfInBounds_toArray, List.set_cons_zero, List.set_cons_succ]
      refine wpAnyH_take1 (i := 10) (d := 17) (v := .bool false) rfl rfl (by kernel_rfl) (by kernel_rfl) (by kernel_rfl) (fun _ _ _ h => h) (Or.inl ⟨by kernel_rfl, fun w' hSw => (by go_simp)⟩) (by assumption) ?_
      simp only [List.setIfInBounds_toArray, List.set_cons_zero, List.set_cons_succ]
      refine wpAnyH_take1 (i := 11) (d := 18) (v := undef) rfl rfl (by kernel_rfl) (by kernel_rfl) (by kernel_rfl) (fun _ _ _ h => h) (Or.inr ⟨by kernel_rfl, rfl⟩) (by assumption) ?_
      simp only [List.setIfInBounds_toArray, List.set_cons_zero, List.set_cons_succ]
      refine wpAnyH_take1 (i := 12) (d := 19) (v := undef) rfl rfl (by kernel_rfl) (by kernel_rfl) (by kernel_rfl) (fun _ _ _ h => h) (Or.inr ⟨by kernel_rfl, rfl⟩) (by assumption) ?_
      simp only [List.setIfInBounds_toArray, List.set_cons_zero, List.set_cons_succ]
      refine wpAnyH_take1 (i := 13) (d := 20) (v := undef) rfl rfl (by kernel_rfl) (by kernel_rfl) (by kernel_rfl) (fun _ _ _ h => h) (Or.inr ⟨by kernel_rfl, rfl⟩) (by assumption) ?_
      simp only [List.setIfInBounds_toArray, List.set_cons_zero, List.set_cons_succ]
      refine wpAnyH_take1 (i := 14) (d := 21) (v := undef) rfl rfl (by kernel_rfl) (by kernel_rfl) (by kernel_rfl) (fun _ _ _ h => h) (Or.inr ⟨by kernel_rfl, rfl⟩) (by assumption) ?_
      simp only [List.setIfInBounds_toArray, List.set_cons_zero, List.set_cons_succ]
      refine wpAnyH_take1 (i := 15) (d := 22) (v := undef) rfl rfl (by kernel_rfl) (by kernel_rfl) (by kernel_rfl) (fun _ _ _ h => h) (Or.inr ⟨by kernel_rfl, rfl⟩) (by assumption) ?_
      simp only [List.setIfInBounds_toArray, List.set_cons_zero, List.set_cons_succ]
      refine wpAnyH_take1 (i := 16) (d := 23) (v := undef) rfl rfl (by kernel_rfl) (by kernel_rfl) (by kernel_rfl) (fun _ _ _ h => h) (Or.inr ⟨by kernel_rfl, rfl⟩) (by assumption) ?_
      simp only [List.setIfInBounds_toArray, List.set_cons_zero, List.set_cons_succ]
      refine wpAnyH_take1 (i := 17) (d := 24) (v := undef) rfl rfl (by kernel_rfl) (by kernel_rfl) (by kernel_rfl) (fun _ _ _ h => h) (Or.inr ⟨by kernel_rfl, rfl⟩) (by assumption) ?_
      simp only [List.setIfInBounds_toArray, List.set_cons_zero, List.set_cons_succ]
      refine wpAnyH_take1 (i := 18) (d := 25) (v := undef) rfl rfl (by kernel_rfl) (by kernel_rfl) (by kernel_rfl) (fun _ _ _ h => h) (Or.inr ⟨by kernel_rfl, rfl⟩) (by assumption) ?_
      simp only [List.setIfInBounds_toArray, List.set_cons_zero, List.set_cons_succ]
      refine wpAnyH_take1 (i := 19) (d := 26) (v := undef) rfl rfl (by kernel_rfl) (by kernel_rfl) (by kernel_rfl) (fun _ _ _ h => h) (Or.inr ⟨by kernel_rfl, rfl⟩) (by assumption) ?_
      simp only [List.setIfInBounds_toArray, List.set_cons_zero, List.set_cons_succ]
      refine wpAnyH_take1 (i := 20) (d := 27) (v := .bool false) rfl rfl (by kernel_rfl) (by kernel_rfl) (by kernel_rfl) (fun _ _ _ h => h) (Or.inl ⟨by kernel_rfl, fun w' hSw => (by go_simp)⟩) (by assumption) ?_
      simp only [List.setIfInBounds_toArray, List.set_cons_zero, List.set_cons_succ]
      refine wpAnyH_take1 (i := 21) (d := 6) (v := .bool false) rfl rfl (by kernel_rfl) (by kernel_rfl) (by kernel_rfl) (fun _ _ _ h => h) (Or.inl ⟨by kernel_rfl, fun w' hSw => (by go_simp)⟩) (by assumption) ?_
      simp only [List.setIfInBounds_toArray, List.set_cons_zero, List.set_cons_succ]
      refine wpAnyH_done (by kernel_rfl) ?_ _
      go_wp2_with fail
      go_ret
      exact ⟨rfl, hbw⟩
    | some p =>
      refine wpAnyH_take1 (i := 3) (d := 10) (v := .bool true) rfl rfl (by kernel_rfl) (by kernel_rfl) (by kernel_rfl) (fun _ _ _ h => h) (Or.inl ⟨by kernel_rfl, fun w' hSw => (by go_simp)⟩) (by assumption) ?_
      simp only [List.setIfInBounds_toArray, List.set_cons_zero, List.set_cons_succ]
      refine wpAnyH_take1 (i := 4) (d := 11) (v := .pointer (some ⟨bl i, 0, none⟩)) rfl rfl (by kernel_rfl) (by kernel_rfl) (by kernel_rfl) (fun _ _ _ h => h) (Or.inl ⟨by kernel_rfl, fun w' hSw => (by go_simp)⟩) (by assumption) ?_
      simp only [List.setIfInBounds_toArray, List.set_cons_zero, List.set_cons_succ]
      refine wpAnyH_take1 (i := 5) (d := 12) (v := .pointer (some ⟨bl i, 0, none⟩)) rfl rfl (by kernel_rfl) (by kernel_rfl) (by kernel_rfl) (fun _ _ _ h => h) (Or.inl ⟨by kernel_rfl, fun w' hSw => (by go_simp)⟩) (by assumption) ?_
      simp only [List.setIfInBounds_toArray, List.set_cons_zero, List.set_cons_succ]
      refine wpAnyH_take1 (i := 6) (d := 13) (v := .pointer (some ⟨bl i, 0, none⟩)) rfl rfl (by kernel_rfl) (by kernel_rfl) (by kernel_rfl) (fun _ _ _ h => h) (Or.inl ⟨by kernel_rfl, fun w' hSw => (by go_simp)⟩) (by assumption) ?_
      simp only [List.setIfInBounds_toArray, List.set_cons_zero, List.set_cons_succ]
      refine wpAnyH_take1 (i := 7) (d := 14) (v := .pointer (some ⟨bl p, 0, none⟩)) rfl rfl (by kernel_rfl) (by kernel_rfl) (by kernel_rfl) (fun _ _ _ h => h) (Or.inl ⟨by kernel_rfl, fun w' hSw => (by obtain ⟨h1, _⟩ := hSw; go_simp; rfl)⟩) (by assumption) ?_
      simp only [List.setIfInBounds_toArray, List.set_cons_zero, List.set_cons_succ]
      refine wpAnyH_take1 (i := 8) (d := 15) (v := .bool true) rfl rfl (by kernel_rfl) (by kernel_rfl) (by kernel_rfl) (fun _ _ _ h => h) (Or.inl ⟨by kernel_rfl, fun w' hSw => (by go_simp)⟩) (by assumption) ?_
      simp only [List.setIfInBounds_toArray, List.set_cons_zero, List.set_cons_succ]
      refine wpAnyH_take1 (i := 9) (d := 16) (v := .bool true) rfl rfl (by kernel_rfl) (by kernel_rfl) (by kernel_rfl) (fun _ _ _ h => h) (Or.inl ⟨by kernel_rfl, fun w' hSw => (by go_simp)⟩) (by assumption) ?_
      simp only [List.setIfInBounds_toArray, List.set_cons_zero, List.set_cons_succ]
      refine wpAnyH_take1 (i := 10) (d := 17) (v := .bool true) rfl rfl (by kernel_rfl) (by kernel_rfl) (by kernel_rfl) (fun _ _ _ h => h) (Or.inl ⟨by kernel_rfl, fun w' hSw => (by go_simp)⟩) (by assumption) ?_
      simp only [List.setIfInBounds_toArray, List.set_cons_zero, List.set_cons_succ]
      refine wpAnyH_take1 (i := 11) (d := 18) (v := .iface Ta xa) rfl rfl (by kernel_rfl) (by kernel_rfl) (by kernel_rfl) (fun _ _ _ h => h) (Or.inl ⟨by kernel_rfl, fun w' hSw => (by go_simp)⟩) (by assumption) ?_
      simp only [List.setIfInBounds_toArray, List.set_cons_zero, List.set_cons_succ]
      refine wpAnyH_take1 (i := 12) (d := 19) (v := .pointer (some ⟨bl i, 0, none⟩)) rfl rfl (by kernel_rfl) (by kernel_rfl) (by kernel_rfl) (fun _ _ _ h => h) (Or.inl ⟨by kernel_rfl, fun w' hSw => (by go_simp)⟩) (by assumption) ?_
      simp only [List.setIfInBounds_toArray, List.set_cons_zero, List.set_cons_succ]
      refine wpAnyH_take1 (i := 13) (d := 20) (v := .pointer (some ⟨bl i, 0, none⟩)) rfl rfl (by kernel_rfl) (by kernel_rfl) (by kernel_rfl) (fun _ _ _ h => h) (Or.inl ⟨by kernel_rfl, fun w' hSw => (by go_simp)⟩) (by assumption) ?_
      simp only [List.setIfInBounds_toArray, List.set_cons_zero, List.set_cons_succ]
      refine wpAnyH_take1 (i := 14) (d := 21) (v := .pointer (some ⟨bl i, 0, none⟩)) rfl rfl (by kernel_rfl) (by kernel_rfl) (by kernel_rfl) (fun _ _ _ h => h) (Or.inl ⟨by kernel_rfl, fun w' hSw => (by go_simp)⟩) (by assumption) ?_
      simp only [List.setIfInBounds_toArray, List.set_cons_zero, List.set_cons_succ]
      refine wpAnyH_take1 (i := 15) (d := 22) (v := .pointer (some ⟨bl p, 0, none⟩)) rfl rfl (by kernel_rfl) (by kernel_rfl) (by kernel_rfl) (fun _ _ _ h => h) (Or.inl ⟨by kernel_rfl, fun w' hSw => (by obtain ⟨h1, _⟩ := hSw; go_simp; rfl)⟩) (by assumption) ?_
      simp only [List.setIfInBounds_toArray, List.set_cons_zero, List.set_cons_succ]
      refine wpAnyH_take1 (i := 16) (d := 23) (v := .func (.method "Match") #[.iface Ta xa] #[]) rfl rfl (by kernel_rfl) (by kernel_rfl) (by kernel_rfl) (fun _ _ _ h => h) (Or.inl ⟨by kernel_rfl, fun w' hSw => (by go_simp)⟩) (by assumption) ?_
      simp only [List.setIfInBounds_toArray, List.set_cons_zero, List.set_cons_succ]
      refine wpAnyH_take1 (i := 17) (d := 24) (v := .func (.method "Match") #[.iface Ta xa] #[]) rfl rfl (by kernel_rfl) (by kernel_rfl) (by kernel_rfl) (fun _ _ _ h => h) (Or.inl ⟨by kernel_rfl, fun w' hSw => (by go_simp)⟩) (by assumption) ?_
      simp only [List.setIfInBounds_toArray, List.set_cons_zero, List.set_cons_succ]
      refine wpAnyH_take1 (i := 18) (d := 25) (v := .iface Ta xa) rfl rfl (by kernel_rfl) (by kernel_rfl) (by kernel_rfl) (fun _ _ _ h => h) (Or.inl ⟨by kernel_rfl, fun w' hSw => (by go_simp)⟩) (by assumption) ?_
      simp only [List.setIfInBounds_toArray, List.set_cons_zero, List.set_cons_succ]
      refine wpAnyH_enter (i := 19) (d := 26) (f := Fa) (args := #[xa, .pointer (some ⟨bl p, 0, none⟩)]) rfl rfl (by kernel_rfl) (by kernel_rfl) (by go_simp) ((HCA.out p _ (by have := HPL.out p rfl; omega) hbw).mono ?_)
      rintro e w2 ⟨rfl, hb2⟩
      have hbw2 := below_step hbw hb2
      refine ⟨_, rfl, ⟨cell_keep hb2 hHeld.1, hbw2⟩, fun hHeld => ?_⟩
      simp only [List.setIfInBounds_toArray, List.set_cons_zero, List.set_cons_succ]
      refine wpAnyH_take1 (i := 20) (d := 27) (v := .bool (ma p)) rfl rfl (by kernel_rfl) (by kernel_rfl) (by kernel_rfl) (fun _ _ _ h => h) (Or.inl ⟨by kernel_rfl, fun w' hSw => (by go_simp)⟩) (by assumption) ?_
      simp only [List.setIfInBounds_toArray, List.set_cons_zero, List.set_cons_succ]
      refine wpAnyH_take1 (i := 21) (d := 6) (v := .bool (ma p)) rfl rfl (by kernel_rfl) (by kernel_rfl) (by kernel_rfl) (fun _ _ _ h => h) (Or.inl ⟨by kernel_rfl, fun w' hSw => (by go_simp)⟩) (by assumption) ?_
      simp only [List.setIfInBounds_toArray, List.set_cons_zero, List.set_cons_succ]
      refine wpAnyH_done (by kernel_rfl) ?_ _
      go_wp2_with fail
      go_ret
      exact ⟨ret_bool (by simp), hbw2⟩

end Go.Proofs.YteaapgijeehhfaaGreatDoor

namespace Go.Proofs.YteaapgijeehhfaaGreatDoor
open Go.RowKit

/-- The nearest one ahead that is no text and no remark. -/
def adjPrev (t : List Nk) (f : Nat → Bool) : Nat → Option Nat → Bool
  | 0, _ => false
  | _ + 1, none => false
  | k + 1, some p => if knd t p = 1 ∨ knd t p = 4 then adjPrev t f k (prv t p) else f p
theorem adjPrev_none (t : List Nk) (f : Nat → Bool) (k : Nat) : adjPrev t f k none = false := by cases k <;> rfl

def sibOf (t : List Nk) (ma md : Nat → Bool) (adj : Bool) (i : Nat) : Bool := md i && (if adj then adjPrev t ma t.length (prv t i) else chainAny (prv t) ma t.length (prv t i))

set_option maxRecDepth 100000 in
set_option maxHeartbeats 4000000 in
theorem sibMatch_any (w : World) (bl : Nat → Nat) (t : List Nk) (va vd : Value) (ma md : Nat → Bool) (adj : Bool) (i : Nat) (hi : i < t.length) (ht : TreeAt w bl t) (ha : SelRep t.length bl w va ma) (hd : SelRep t.length bl w vd md) :
    Calls Tryz.prog 170 #[va, vd, .bool adj, .pointer (some ⟨bl i, 0, none⟩)] w fun e w' => e = .returned (.bool (sibOf t ma md adj i)) ∧ Below w.heap.size w w' := by
  obtain ⟨Ta, xa, Fa, rfl, hma, _, hea, hca⟩ := ha
  obtain ⟨Td, xd, Fd, rfl, hmd, _, hed, hcd⟩ := hd
  unfold sibOf
  have HCA := Lib.hid hca
  have HCD := Lib.hid (hcd i w hi (Below.refl _ _))
  obtain ⟨r, hr⟩ : ∃ r, md i = r := ⟨_, rfl⟩
  rw [hr] at HCD ⊢
  have HT := Lib.hid ht
  clear hca hcd hr ht
  cases r
  · simp only [Bool.false_and]
    go_enter Tryz.func170, Tryz.ntmps170
    go_wp2_with fail
    refine HCD.out.mono ?_
    rintro e w1 ⟨rfl, hb1⟩
    go_wp2_with fail
    go_ret
    exact ⟨rfl, hb1⟩
  · cases adj
    · go_enter Tryz.func170, Tryz.ntmps170
      go_wp2_with fail
      refine HCD.out.mono ?_
      rintro e w1 ⟨rfl, hb1⟩
      have ht1 := HT.out.keep hb1
      have p0 := ht1.c3 hi
      have HB1 := Lib.hid hb1
      clear ht1 hb1
      go_wp2_with fail
      go_loopg [9] t.length (fun k v wr => ∃ o, v = ptr bl o ∧ k ≤ t.length ∧ (∀ p, o = some p → p < k) ∧ chainAny (prv t) ma k o = chainAny (prv t) ma t.length (prv t i) ∧ Below w.heap.size w wr)
      case atStart => exact ⟨_, rfl, Nat.le_refl _, fun p hp => by have := HT.out.prv_lt hi hp; omega, rfl, HB1.out⟩
      case round =>
        obtain ⟨o, rfl, hk, ho, hch, hb⟩ := hrel
        cases o with
        | none =>
          rw [chainAny_none] at hch
          have HCH := Lib.hid hch
          clear hch ho
          simp only [ptr, Option.map_none]
          go_wp2_with fail
          go_ret
          exact ⟨ret_bool (by simp [← HCH.out]), hb⟩
        | some p =>
          have hpk := ho p rfl
          obtain ⟨k, rfl⟩ : ∃ k, gk = k + 1 := ⟨gk - 1, by omega⟩
          have hpl : p < t.length := by omega
          have HC := Lib.hid (HCA.out p wr hpl hb)
          simp only [chainAny] at hch
          obtain ⟨r, hr⟩ : ∃ r, ma p = r := ⟨_, rfl⟩
          rw [hr] at HC hch
          have HCH := Lib.hid hch
          clear hch ho hr
          simp only [ptr, Option.map_some]
          cases r
          · go_wp2_with fail
            refine HC.out.mono ?_
            rintro e w2 ⟨rfl, hb2⟩
            have hb3 := hb.trans (hb2.mono hb.size)
            have ht3 := HT.out.keep hb3
            have p1 := ht3.c3 hpl
            have HB3 := Lib.hid hb3
            clear ht3 hb2 hb3
            go_wp2_with fail
            go_roundg k
            case measure => omega
            case rel => exact ⟨_, rfl, by omega, fun q hq => by have := HT.out.prv_lt hpl hq; omega, HCH.out, HB3.out⟩
          · go_wp2_with fail
            refine HC.out.mono ?_
            rintro e w2 ⟨rfl, hb2⟩
            have hb3 := hb.trans (hb2.mono hb.size)
            go_wp2_with fail
            go_ret
            exact ⟨ret_bool (by simp [← HCH.out]), hb3⟩
    · go_enter Tryz.func170, Tryz.ntmps170
      go_wp2_with fail
      refine HCD.out.mono ?_
      rintro e w1 ⟨rfl, hb1⟩
      have ht1 := HT.out.keep hb1
      have p0 := ht1.c3 hi
      have HB1 := Lib.hid hb1
      clear ht1 hb1
      go_wp2_with fail
      go_loopg [3] t.length (fun k v wr => ∃ o, v = ptr bl o ∧ k ≤ t.length ∧ (∀ p, o = some p → p < k) ∧ adjPrev t ma k o = adjPrev t ma t.length (prv t i) ∧ Below w.heap.size w wr)
      case atStart => exact ⟨_, rfl, Nat.le_refl _, fun p hp => by have := HT.out.prv_lt hi hp; omega, rfl, HB1.out⟩
      case round =>
        obtain ⟨o, rfl, hk, ho, hch, hb⟩ := hrel
        cases o with
        | none =>
          rw [adjPrev_none] at hch
          have HCH := Lib.hid hch
          clear hch ho
          simp only [ptr, Option.map_none]
          go_wp2_with fail
          go_ret
          exact ⟨ret_bool (by simp [← HCH.out]), hb⟩
        | some p =>
          have hpk := ho p rfl
          obtain ⟨k, rfl⟩ : ∃ k, gk = k + 1 := ⟨gk - 1, by omega⟩
          have hpl : p < t.length := by omega
          have ht3 := HT.out.keep hb
          have p1 := ht3.c3 hpl
          have p5 := ht3.c5 hpl
          simp only [adjPrev] at hch
          simp only [ptr, Option.map_some]
          by_cases h14 : knd t p = 1 ∨ knd t p = 4
          · rw [if_pos h14] at hch
            have HCH := Lib.hid hch
            clear hch ho ht3
            by_cases h1 : knd t p = 1
            · have e1 : (knd t p == 1) = true := by simp [h1]
              clear h1 h14
              go_wp2_with fail
              go_roundg k
              case measure => omega
              case rel => exact ⟨_, rfl, by omega, fun q hq => by have := HT.out.prv_lt hpl hq; omega, HCH.out, hb⟩
            · have e1 : (knd t p == 1) = false := by simp [h1]
              have e4 : (knd t p == 4) = true := by simp; omega
              clear h1 h14
              go_wp2_with fail
              go_roundg k
              case measure => omega
              case rel => exact ⟨_, rfl, by omega, fun q hq => by have := HT.out.prv_lt hpl hq; omega, HCH.out, hb⟩
          · rw [if_neg h14] at hch
            have e1 : (knd t p == 1) = false := by simp; omega
            have e4 : (knd t p == 4) = false := by simp; omega
            have HC := Lib.hid (HCA.out p wr hpl hb)
            have HCH := Lib.hid hch
            clear hch ho ht3 h14
            go_wp2_with fail
            refine HC.out.mono ?_
            rintro e w2 ⟨rfl, hb2⟩
            have hb3 := hb.trans (hb2.mono hb.size)
            go_wp2_with fail
            go_ret
            exact ⟨ret_bool (by simp [← HCH.out]), hb3⟩

end Go.Proofs.YteaapgijeehhfaaGreatDoor

namespace Go.Proofs.YteaapgijeehhfaaGreatDoor
open Go.RowKit

/-- How a compound is joined to those ahead of it: j is the join's byte. -/
def joinOf (t : List Nk) (ma md : Nat → Bool) (j : Int) (i : Nat) : Bool :=
  if j = 32 then md i && chainAny (par t) ma t.length (par t i) else if j = 62 then childOf t ma md i else if j = 43 then sibOf t ma md true i else sibOf t ma md false i

theorem SelRep.form {n : Nat} {bl : Nat → Nat} {w : World} {v : Value} {m : Nat → Bool} (h : SelRep n bl w v m) : ∃ T x, v = .iface T x := by
  obtain ⟨T, x, F, rfl, _⟩ := h; exact ⟨T, x, rfl⟩

set_option maxRecDepth 100000 in
set_option maxHeartbeats 4000000 in
theorem combined_any (w : World) (bl : Nat → Nat) (t : List Nk) (va vd : Value) (ma md : Nat → Bool) (j : Int) (i : Nat) (hi : i < t.length) (ht : TreeAt w bl t) (ha : SelRep t.length bl w va ma) (hd : SelRep t.length bl w vd md)
    (hj : j = 32 ∨ j = 62 ∨ j = 43 ∨ j = 126) :
    Calls Tryz.prog 164 #[.agg #[va, .int .u8 j, vd], .pointer (some ⟨bl i, 0, none⟩)] w fun e w' => e = .returned (.bool (joinOf t ma md j i)) ∧ Below w.heap.size w w' := by
  obtain ⟨Ta, xa, rfl⟩ := ha.form
  obtain ⟨Td, xd, rfl⟩ := hd.form
  have hba : Below w.heap.size w (w.alloc (.cells #[.iface Ta xa, .int .u8 j, .iface Td xd] 148)) := (Below.refl _ _).alloc (Nat.le_refl _) _
  have HT := Lib.hid (ht.keep hba)
  have HA := Lib.hid (ha.keep hba)
  have HD := Lib.hid (hd.keep hba)
  have HB := Lib.hid hba
  clear ht ha hd hba
  rcases hj with rfl | rfl | rfl | rfl
  · go_enter Tryz.func164, Tryz.ntmps164
    go_wp2_with (go_at_call 168; refine (descMatch_any _ bl t _ _ ma md i hi HT.out HA.out HD.out).mono ?_; rintro e w2 ⟨rfl, hb2⟩)
    go_ret
    exact ⟨rfl, below_step HB.out hb2⟩
  · go_enter Tryz.func164, Tryz.ntmps164
    go_wp2_with (go_at_call 169; refine (childMatch_any _ bl t _ _ ma md i hi HT.out HA.out HD.out).mono ?_; rintro e w2 ⟨rfl, hb2⟩)
    go_ret
    exact ⟨rfl, below_step HB.out hb2⟩
  · go_enter Tryz.func164, Tryz.ntmps164
    go_wp2_with (go_at_call 170; refine (sibMatch_any _ bl t _ _ ma md true i hi HT.out HA.out HD.out).mono ?_; rintro e w2 ⟨rfl, hb2⟩)
    go_ret
    exact ⟨rfl, below_step HB.out hb2⟩
  · go_enter Tryz.func164, Tryz.ntmps164
    go_wp2_with (go_at_call 170; refine (sibMatch_any _ bl t _ _ ma md false i hi HT.out HA.out HD.out).mono ?_; rintro e w2 ⟨rfl, hb2⟩)
    go_ret
    exact ⟨rfl, below_step HB.out hb2⟩

end Go.Proofs.YteaapgijeehhfaaGreatDoor
