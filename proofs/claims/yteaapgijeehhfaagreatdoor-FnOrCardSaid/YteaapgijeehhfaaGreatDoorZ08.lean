/- A scope with gotos that jump on: the run is followed from label to label. -/
import Derived.Test.YteaapgijeehhfaaGreatDoorZ04
import Derived.Scope
import Derived.WalkMore
namespace Go.Proofs.YteaapgijeehhfaaGreatDoor
open Go.RowKit

/-- As Q; by a goto: what stands behind its label goes on, at most n jumps in all. -/
def jumpN (P : Program) (c : Code) (Q : Exit → Act → World → Prop) : Nat → Exit → Act → World → Prop
  | 0, e, a, w => Exit.noGoto Q e a w
  | n + 1, .goto l, a, w => ∃ rest, findLabel c l = some rest ∧ rest.wp P (jumpN P c Q n) a w
  | _ + 1, e, a, w => Q e a w

theorem jumpN_ret {P : Program} {c : Code} {Q : Exit → Act → World → Prop} {a : Act} {w : World} (n : Nat) : jumpN P c Q n .ret a w = Q .ret a w := by
  cases n <;> rfl
theorem jumpN_goto {P : Program} {c : Code} {Q : Exit → Act → World → Prop} {a : Act} {w : World} (n l : Nat) (rest : Code) (hf : findLabel c l = some rest)
    (h : rest.wp P (jumpN P c Q n) a w) : jumpN P c Q (n + 1) (.goto l) a w := ⟨rest, hf, h⟩

theorem jumpN_goto_st {P : Program} {c : Code} {Q : Exit → Act → World → Prop} {a : Act} {w w0 : World} {bp d i : Nat} {s : ByteArray} (n l : Nat) (rest : Code) (hf : findLabel c l = some rest)
    (hst : St bp s d w0 w i) (h : ∀ W, St bp s d w0 W i → rest.wp P (jumpN P c Q n) a W) : jumpN P c Q (n + 1) (.goto l) a w := ⟨rest, hf, h w hst⟩

theorem wp_scope_jumpN {P : Program} {Q : Exit → Act → World → Prop} {a : Act} {w : World} {c : Code} (n : Nat) (h : c.wp P (jumpN P c Q n) a w) : (Code.scope c).wp P Q a w := by
  intro b k cs
  have key : ∀ n rest a w, rest.wp P (jumpN P c Q n) a w → ∃ e a' w', Q e a' w' ∧ Arrives P (lone (b.at a (.code rest :: .inScope c :: k)) cs w) b k cs e a' w' := by
    intro n
    induction n with
    | zero =>
      intro rest a w h
      obtain ⟨e, a₁, w₁, hq, harr⟩ := h b (.inScope c :: k) cs
      cases e with
      | normal => exact ⟨.normal, a₁, w₁, hq, Steps.trans harr (.one step_inScope)⟩
      | exit id => exact ⟨.exit id, a₁, w₁, hq, fun k' hk => harr k' (by simp [exitTo, hk])⟩
      | goto l' => exact hq.elim
      | ret => exact ⟨_, a₁, w₁, hq, harr⟩
      | panic ch => exact ⟨_, a₁, w₁, hq, harr⟩
      | outgrown => exact ⟨_, a₁, w₁, hq, harr⟩
    | succ n ih =>
      intro rest a w h
      obtain ⟨e, a₁, w₁, hq, harr⟩ := h b (.inScope c :: k) cs
      cases e with
      | normal => exact ⟨.normal, a₁, w₁, hq, Steps.trans harr (.one step_inScope)⟩
      | exit id => exact ⟨.exit id, a₁, w₁, hq, fun k' hk => harr k' (by simp [exitTo, hk])⟩
      | goto l' =>
        obtain ⟨rest', hf, h'⟩ := hq
        have hg : gotoIn l' (.inScope c :: k) = some (.code rest' :: .inScope c :: k) := by simp [gotoIn, hf]
        obtain ⟨e₂, a₂, w₂, hq₂, harr₂⟩ := ih rest' a₁ w₁ h'
        exact ⟨e₂, a₂, w₂, hq₂, .of_steps (harr _ hg) harr₂⟩
      | ret => exact ⟨_, a₁, w₁, hq, harr⟩
      | panic ch => exact ⟨_, a₁, w₁, hq, harr⟩
      | outgrown => exact ⟨_, a₁, w₁, hq, harr⟩
  obtain ⟨e, a₁, w₁, hq, harr⟩ := key n c a w h
  exact ⟨e, a₁, w₁, hq, .of_steps (.one step_scope) harr⟩

theorem parseInt_lit (w : World) (bp : Nat) (s : ByteArray) (i d : Nat) (c : UInt8) (v : Int) (r : List UInt8) (hp : PS w bp s i d) (ha : At s i (c :: r)) (hs : s.size ≤ 140737488351232)
    (hc : figC c) (hr : headP (fun c => c.toNat < 48 ∨ 57 < c.toNat) r) (hv : (c.toNat : Int) - 48 = v) :
    Calls Tryz.prog 102 #[.pointer (some ⟨bp, 0, none⟩)] w (PPost w bp s (i + 1) d (.tuple #[.int .i64 v, .nilIface])) := by
  subst hv; exact parseInt_any w bp s i d c r hp ha hs hc hr

end Go.Proofs.YteaapgijeehhfaaGreatDoor
