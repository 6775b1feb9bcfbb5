/- How long written selectors may be. -/
/- Written selectors, a piece more. -/
/- The arguments in the heap: as the data of the statements, but that an empty slice may lie anywhere. -/
import Derived.Test.YteaapgijeehhfaaGreatDoorZ13
import Derived.Test.YteaapgijeehhfaaGreatDoorZ01
namespace Go.Proofs.YteaapgijeehhfaaGreatDoor
open Go.RowKit

def capG : Nat → Nat
  | 0 => 0
  | d + 1 => 60 * (capG d + 100)

theorem flatMap_len {α : Type} {l : List α} {f : α → List UInt8} {n : Nat} (h : ∀ x ∈ l, (f x).length ≤ n) : (l.flatMap f).length ≤ l.length * n := by
  induction l with
  | nil => simp
  | cons a l ih =>
    have h1 := h a (List.mem_cons_self ..)
    have h2 := ih fun x hx => h x (List.mem_cons_of_mem _ hx)
    rw [List.flatMap_cons, List.length_append, List.length_cons, Nat.succ_mul]
    omega

theorem decL_len (n : Int) : (decL n).length ≤ 2 := by unfold decL; split <;> simp
theorem countL_len (a b : Int) : (countL a b).length ≤ 6 := by
  have h1 := decL_len a
  have h2 := decL_len b
  unfold countL
  split <;> simp <;> omega
theorem nthW_len (a b : Int) (l t : Bool) : (nthW a b l t).length ≤ 40 := by
  have h := countL_len a b
  unfold nthW
  split
  · cases l <;> cases t <;> simp [endL, typeL]
  · cases l <;> cases t <;> simp [nthL, typeL] <;> omega
theorem opL_len (k : Int) : (opL k).length ≤ 2 := by
  unfold opL; repeat' split
  all_goals simp
theorem name_len {l : List UInt8} (h : nameL l = true) : l.length ≤ 12 := by
  simp only [nameL, Bool.and_eq_true, decide_eq_true_eq] at h; exact h.2
theorem value_len {l : List UInt8} (h : valueL l = true) : l.length ≤ 40 := by
  simp only [valueL, Bool.and_eq_true, decide_eq_true_eq] at h; exact h.2

section
variable {wg : Group → List UInt8} {og : Group → Prop} {B : Nat}
theorem wSm_len (hB : ∀ g, og g → (wg g).length ≤ B) {s : Simple} (h : okSm og s) : (wSm wg s).length ≤ B + 80 := by
  have hk := h.kind
  have hn := fun a b c d e f => name_len (h.name a b c d e f)
  have hv := fun a => value_len (h.value a)
  have hs := fun a => hB _ (h.subs a)
  have ho := opL_len s.kind
  have hw := nthW_len s.a s.b s.last s.ofType
  clear h hB
  unfold wSm
  by_cases k0 : s.kind = 0
  · rw [if_pos k0]; have := hn (by omega) (by omega) (by omega) (by omega) (by omega) (by omega); omega
  rw [if_neg k0]
  by_cases k1 : s.kind = 1
  · rw [if_pos k1]; simp
  rw [if_neg k1]
  by_cases k2 : s.kind = 2
  · rw [if_pos k2]; have := hn (by omega) (by omega) (by omega) (by omega) (by omega) (by omega); simp; omega
  rw [if_neg k2]
  by_cases k3 : s.kind = 3
  · rw [if_pos k3]; have := hn (by omega) (by omega) (by omega) (by omega) (by omega) (by omega); simp; omega
  rw [if_neg k3]
  by_cases k4 : s.kind = 4
  · rw [if_pos k4]; have := hn (by omega) (by omega) (by omega) (by omega) (by omega) (by omega); simp; omega
  rw [if_neg k4]
  by_cases k11 : s.kind = 11
  · rw [if_pos k11]; omega
  rw [if_neg k11]
  by_cases k12 : s.kind = 12
  · rw [if_pos k12]; simp
  rw [if_neg k12]
  by_cases k13 : s.kind = 13
  · rw [if_pos k13]; simp
  rw [if_neg k13]
  by_cases k14 : s.kind = 14
  · rw [if_pos k14]; have := hs (.inl k14); simp; omega
  rw [if_neg k14]
  by_cases k15 : s.kind = 15
  · rw [if_pos k15]; have := hs (.inr k15); simp; omega
  rw [if_neg k15]
  have h1 := hn (by omega) (by omega) (by omega) (by omega) (by omega) (by omega)
  have h2 := hv (by omega)
  cases s.fold <;> simp <;> omega
theorem wParts_len (hB : ∀ g, og g → (wg g).length ≤ B) {l : List Simple} (h : okParts og l) : (wParts wg l).length ≤ 4 * (B + 80) := by
  have h1 : (wParts wg l).length ≤ l.length * (B + 80) := flatMap_len fun s hs => by
    obtain ⟨k, hk, rfl⟩ := List.mem_iff_getElem.1 hs
    exact wSm_len hB (h.each k hk).1
  exact Nat.le_trans h1 (Nat.mul_le_mul_right _ h.len.2)
theorem wJoin_len {j : ByteArray} (h : okJoin j) : (wJoin j).length ≤ 3 := by
  unfold wJoin
  rcases h with h | h | h | h <;> simp [h]
theorem wMore_len (hB : ∀ g, og g → (wg g).length ≤ B) {p : Compound} (h : okParts og p.2) (hj : okJoin p.1) : (wMore wg p).length ≤ 4 * (B + 80) + 3 := by
  unfold wMore
  have h1 := wParts_len hB h
  have h2 := wJoin_len hj
  rw [List.length_append]; omega
theorem wCx_len (hB : ∀ g, og g → (wg g).length ≤ B) {c : Complex} (h : okCx og c) : (wCx wg c).length ≤ 4 * (4 * (B + 80) + 3) := by
  cases c with
  | nil => exact absurd h.len.1 (by simp)
  | cons p l =>
    have hl := h.len.2
    have h1 := wParts_len hB (h.each 0 (by simp)).1
    have h2 : (l.flatMap (wMore wg)).length ≤ l.length * (4 * (B + 80) + 3) := flatMap_len fun q hq => by
      obtain ⟨k, hk, rfl⟩ := List.mem_iff_getElem.1 hq
      have h3 := h.each (k + 1) (by simpa using hk)
      simp only [List.getElem_cons_succ] at h3
      exact wMore_len hB h3.1 (h3.2 (by omega))
    simp only [List.length_cons] at hl
    have h4 : l.length * (4 * (B + 80) + 3) ≤ 3 * (4 * (B + 80) + 3) := Nat.mul_le_mul_right _ (by omega)
    simp only [List.getElem_cons_zero] at h1
    unfold wCx
    rw [List.length_append]; omega
theorem wGr_len (hB : ∀ g, og g → (wg g).length ≤ B) {g : Group} (h : okGr og g) : (wGr wg g).length ≤ 60 * (B + 100) := by
  cases g with
  | nil => exact absurd h.len.1 (by simp)
  | cons c l =>
    have hl := h.len.2
    have h1 := wCx_len hB (h.each 0 (by simp))
    have h2 : (l.flatMap (fun c => 44 :: 32 :: wCx wg c)).length ≤ l.length * (4 * (4 * (B + 80) + 3) + 2) := flatMap_len fun q hq => by
      obtain ⟨k, hk, rfl⟩ := List.mem_iff_getElem.1 hq
      have h3 := h.each (k + 1) (by simpa using hk)
      simp only [List.getElem_cons_succ] at h3
      have := wCx_len hB h3
      simp only [List.length_cons]; omega
    simp only [List.length_cons] at hl
    have h4 : l.length * (4 * (4 * (B + 80) + 3) + 2) ≤ 2 * (4 * (4 * (B + 80) + 3) + 2) := Nat.mul_le_mul_right _ (by omega)
    simp only [List.getElem_cons_zero] at h1
    unfold wGr
    rw [List.length_append]; omega
end
theorem wG_len : ∀ (d : Nat) (g : Group), okG d g → (wG d g).length ≤ capG d
  | 0, _, h => h.elim
  | d + 1, _, h => wGr_len (wG_len d) h

end Go.Proofs.YteaapgijeehhfaaGreatDoor

namespace Go.Proofs.YteaapgijeehhfaaGreatDoor
open Go.RowKit

section
variable {wg : Group → List UInt8}
theorem wGr_snoc (l : Group) (c : Complex) : wGr wg (l ++ [c]) = wGr wg l ++ ((if l.length = 0 then [] else [44, 32]) ++ wCx wg c) := by
  cases l with
  | nil => simp [wGr]
  | cons a l => simp [wGr]
theorem wCx_snoc (l : Complex) (p : Compound) : wCx wg (l ++ [p]) = wCx wg l ++ ((if l.length = 0 then [] else wJoin p.1) ++ wParts wg p.2) := by
  cases l with
  | nil => simp [wCx]
  | cons a l => simp [wCx, wMore]
theorem wParts_snoc2 (l : List Simple) (s : Simple) : wParts wg (l ++ [s]) = wParts wg l ++ wSm wg s := by simp [wParts]

theorem wGr_take {g : Group} {k : Nat} (h : k < g.length) : wGr wg (g.take (k + 1)) = wGr wg (g.take k) ++ ((if k = 0 then [] else [44, 32]) ++ wCx wg g[k]) := by
  rw [List.take_succ_eq_append_getElem h, wGr_snoc]
  have : (g.take k).length = k := by simp; omega
  rw [this]
theorem wCx_take {c : Complex} {k : Nat} (h : k < c.length) : wCx wg (c.take (k + 1)) = wCx wg (c.take k) ++ ((if k = 0 then [] else wJoin c[k].1) ++ wParts wg c[k].2) := by
  rw [List.take_succ_eq_append_getElem h, wCx_snoc]
  have : (c.take k).length = k := by simp; omega
  rw [this]
theorem wParts_take {l : List Simple} {k : Nat} (h : k < l.length) : wParts wg (l.take (k + 1)) = wParts wg (l.take k) ++ wSm wg l[k] := by
  rw [List.take_succ_eq_append_getElem h, wParts_snoc2]

theorem mono_len {f : Nat → List UInt8} (h : ∀ k, (f k).length ≤ (f (k + 1)).length) : ∀ {a b : Nat}, a ≤ b → (f a).length ≤ (f b).length := by
  intro a b hab
  induction hab with
  | refl => exact Nat.le_refl _
  | step _ ih => exact Nat.le_trans ih (h _)
theorem wGr_le (g : Group) {a b : Nat} (h : a ≤ b) : (wGr wg (g.take a)).length ≤ (wGr wg (g.take b)).length := by
  refine mono_len (f := fun k => wGr wg (g.take k)) (fun k => ?_) h
  by_cases hk : k < g.length
  · show (wGr wg (g.take k)).length ≤ (wGr wg (g.take (k + 1))).length
    rw [wGr_take hk]; simp
  · show (wGr wg (g.take k)).length ≤ (wGr wg (g.take (k + 1))).length
    rw [List.take_of_length_le (by omega), List.take_of_length_le (by omega)]; exact Nat.le_refl _
theorem wCx_le (g : Complex) {a b : Nat} (h : a ≤ b) : (wCx wg (g.take a)).length ≤ (wCx wg (g.take b)).length := by
  refine mono_len (f := fun k => wCx wg (g.take k)) (fun k => ?_) h
  by_cases hk : k < g.length
  · show (wCx wg (g.take k)).length ≤ (wCx wg (g.take (k + 1))).length
    rw [wCx_take hk]; simp
  · show (wCx wg (g.take k)).length ≤ (wCx wg (g.take (k + 1))).length
    rw [List.take_of_length_le (by omega), List.take_of_length_le (by omega)]; exact Nat.le_refl _
theorem wParts_le (g : List Simple) {a b : Nat} (h : a ≤ b) : (wParts wg (g.take a)).length ≤ (wParts wg (g.take b)).length := by
  refine mono_len (f := fun k => wParts wg (g.take k)) (fun k => ?_) h
  by_cases hk : k < g.length
  · show (wParts wg (g.take k)).length ≤ (wParts wg (g.take (k + 1))).length
    rw [wParts_take hk]; simp
  · show (wParts wg (g.take k)).length ≤ (wParts wg (g.take (k + 1))).length
    rw [List.take_of_length_le (by omega), List.take_of_length_le (by omega)]; exact Nat.le_refl _
theorem take_all' {α : Type} (l : List α) : l.take l.length = l := List.take_length
end

end Go.Proofs.YteaapgijeehhfaaGreatDoor

namespace Go.Proofs.YteaapgijeehhfaaGreatDoor
open Go.RowKit

/-- A slice value that reads as a list; nothing is said of where an empty one lies. -/
def SlI {α : Type} (sz bt : Nat) (E : (Nat → Prop) → World → List Value → α → Prop) (X : Nat → Prop) (w : World) (v : Value) (l : List α) : Prop :=
  (l = [] ∧ ∃ a cap, v = .slice a 0 cap) ∨ ∃ b o cap, v = .slice (some ⟨b, o, none⟩) l.length cap ∧ X b ∧ l.length ≤ 140737488355328 ∧ l.length * bt ≤ 140737488355328 ∧ 0 < l.length ∧
      ∀ i (h : i < l.length), ∃ cs : List Value, cs.length = sz ∧ (∀ j u, cs[j]? = some u → w.cell? ⟨b, o + i * sz + j, none⟩ = some u) ∧ E X w cs l[i]

theorem SlI.len {α : Type} {sz bt : Nat} {E : (Nat → Prop) → World → List Value → α → Prop} {X : Nat → Prop} {w : World} {v : Value} {l : List α} (h : SlI sz bt E X w v l) (_ : 0 < bt) :
    ∃ a cap, v = .slice a l.length cap ∧ l.length ≤ 140737488355328 := by
  rcases h with ⟨rfl, a, cap, rfl⟩ | ⟨b, o, cap, rfl, _, h2, _⟩
  · exact ⟨a, cap, rfl, by simp⟩
  · exact ⟨_, _, rfl, h2⟩
theorem SlI.view {α : Type} {sz bt : Nat} {E : (Nat → Prop) → World → List Value → α → Prop} {X : Nat → Prop} {w : World} {v : Value} {l : List α} (h : SlI sz bt E X w v l) (_ : 0 < bt) :
    (l = [] ∧ ∃ a cap, v = .slice a 0 cap) ∨ ∃ b o cap, v = .slice (some ⟨b, o, none⟩) l.length cap ∧ X b ∧ l.length ≤ 140737488355328 ∧ l.length * bt ≤ 140737488355328 ∧ 0 < l.length ∧
      ∀ i (h : i < l.length), ∃ cs : List Value, cs.length = sz ∧ (∀ j u, cs[j]? = some u → w.cell? ⟨b, o + i * sz + j, none⟩ = some u) ∧ E X w cs l[i] := h

theorem SlI.rep {α : Type} {sz bt : Nat} {E : (Nat → Prop) → World → List Value → α → Prop} (hE : ElemRep E) (hsz : 0 < sz) : ValRep (SlI sz bt E) where
  keep := by
    intro X w w' v l hk h
    rcases h with h | ⟨b, o, cap, h1, hX, h2, h3, h4, h5⟩
    · exact .inl h
    · exact .inr ⟨b, o, cap, h1, hX, h2, h3, h4, fun i hi => by obtain ⟨cs, e1, e2, e3⟩ := h5 i hi; exact ⟨cs, e1, fun j u hj => hk.cell hX (e2 j u hj), hE.keep hk e3⟩⟩
  lt := by
    intro X w v l h
    rcases h with h | ⟨b, o, cap, h1, hX, h2, h3, h4, h5⟩
    · exact .inl h
    · refine .inr ⟨b, o, cap, h1, ⟨hX, ?_⟩, h2, h3, h4, fun i hi => by obtain ⟨cs, e1, e2, e3⟩ := h5 i hi; exact ⟨cs, e1, e2, hE.lt e3⟩⟩
      obtain ⟨cs, e1, e2, _⟩ := h5 0 h4
      have hlt : 0 < cs.length := by omega
      exact lt_of_cell (e2 0 _ (List.getElem?_eq_getElem hlt))
  mono := by
    intro X Y w v l hXY h
    rcases h with h | ⟨b, o, cap, h1, hX, h2, h3, h4, h5⟩
    · exact .inl h
    · exact .inr ⟨b, o, cap, h1, hXY _ hX, h2, h3, h4, fun i hi => by obtain ⟨cs, e1, e2, e3⟩ := h5 i hi; exact ⟨cs, e1, e2, hE.mono hXY e3⟩⟩

def ECpI (R : GRep) (X : Nat → Prop) (w : World) (cs : List Value) (p : Compound) : Prop :=
  ∃ v, cs = [.string p.1, v] ∧ p.1.size ≤ 140737488351232 ∧ SlI 9 96 (ESm R) X w v p.2
def ECxI (R : GRep) (X : Nat → Prop) (w : World) (cs : List Value) (c : Complex) : Prop :=
  ∃ v, cs = [v] ∧ SlI 2 40 (ECpI R) X w v c
/-- An argument that is a group of selectors, at most d deep. -/
def RGI : Nat → GRep
  | 0 => fun _ _ _ _ => False
  | d + 1 => SlI 1 24 (ECxI (RGI d))
theorem ECpI.rep {R : GRep} (hR : ValRep R) : ElemRep (ECpI R) :=
  have hS := SlI.rep (sz := 9) (bt := 96) (ESm.rep hR) (by omega)
  { keep := fun hk ⟨v, h1, h2, h3⟩ => ⟨v, h1, h2, hS.keep hk h3⟩
    lt := fun ⟨v, h1, h2, h3⟩ => ⟨v, h1, h2, hS.lt h3⟩
    mono := fun hX ⟨v, h1, h2, h3⟩ => ⟨v, h1, h2, hS.mono hX h3⟩ }
theorem ECxI.rep {R : GRep} (hR : ValRep R) : ElemRep (ECxI R) :=
  have hS := SlI.rep (sz := 2) (bt := 40) (ECpI.rep hR) (by omega)
  { keep := fun hk ⟨v, h1, h2⟩ => ⟨v, h1, hS.keep hk h2⟩
    lt := fun ⟨v, h1, h2⟩ => ⟨v, h1, hS.lt h2⟩
    mono := fun hX ⟨v, h1, h2⟩ => ⟨v, h1, hS.mono hX h2⟩ }
theorem RGI.rep : ∀ d, ValRep (RGI d)
  | 0 => ⟨fun _ h => h.elim, fun h => h.elim, fun _ h => h.elim⟩
  | d + 1 => SlI.rep (ECxI.rep (RGI.rep d)) (by omega)
theorem RGI.val : ∀ {d : Nat} {X : Nat → Prop} {w : World} {v : Value} {g : Group}, RGI d X w v g → ∃ a cap, v = .slice a g.length cap
  | 0, _, _, _, _, h => h.elim
  | _ + 1, _, _, _, _, h => by obtain ⟨a, cap, h, _⟩ := SlI.len h (by omega); exact ⟨a, cap, h⟩

def ENdI (X : Nat → Prop) (w : World) (cs : List Value) (n : Nd) : Prop :=
  ∃ v, cs = [.int .i64 n.parent, .int .i64 n.kind, .string n.data, v] ∧ n.data.size ≤ 140737488351232 ∧ i64ok n.parent ∧ i64ok n.kind ∧ SlI 2 32 EAt X w v n.attrs
theorem ENdI.rep : ElemRep ENdI :=
  have hS := SlI.rep (sz := 2) (bt := 32) EAt.rep (by omega)
  { keep := fun hk ⟨v, h1, h2, h3, h4, h5⟩ => ⟨v, h1, h2, h3, h4, hS.keep hk h5⟩
    lt := fun ⟨v, h1, h2, h3, h4, h5⟩ => ⟨v, h1, h2, h3, h4, hS.lt h5⟩
    mono := fun hX ⟨v, h1, h2, h3, h4, h5⟩ => ⟨v, h1, h2, h3, h4, hS.mono hX h5⟩ }
/-- An argument that is a tree. -/
def RTI (X : Nat → Prop) (w : World) (v : Value) (t : List Nd) : Prop := SlI 4 56 ENdI X w v t
theorem RTI.rep : ValRep RTI := SlI.rep ENdI.rep (by omega)

/-! Deeper. -/
theorem SlI.imp {α : Type} {sz bt : Nat} {E E' : (Nat → Prop) → World → List Value → α → Prop} {X : Nat → Prop} {w : World} {v : Value} {l : List α} (hE : ∀ cs x, E X w cs x → E' X w cs x) (h : SlI sz bt E X w v l) : SlI sz bt E' X w v l := by
  rcases h with h | ⟨b, o, cap, h1, hX, h2, h3, h4, h5⟩
  · exact .inl h
  · exact .inr ⟨b, o, cap, h1, hX, h2, h3, h4, fun i hi => by obtain ⟨cs, e1, e2, e3⟩ := h5 i hi; exact ⟨cs, e1, e2, hE _ _ e3⟩⟩
theorem RGI.up1 : ∀ {d : Nat} {X : Nat → Prop} {w : World} {v : Value} {g : Group}, RGI d X w v g → RGI (d + 1) X w v g
  | 0, _, _, _, _, h => h.elim
  | _ + 1, _, _, _, _, h => SlI.imp (fun _ _ ⟨v, h1, h2⟩ => ⟨v, h1, SlI.imp (fun _ _ ⟨v, h1, h2, h3⟩ => ⟨v, h1, h2, SlI.imp (fun _ _ ⟨v, h1, h2, h3, h4, h5, h6, h7⟩ => ⟨v, h1, h2, h3, h4, h5, h6, RGI.up1 h7⟩) h3⟩) h2⟩) h
theorem RGI.up {d d' : Nat} (hd : d ≤ d') {X : Nat → Prop} {w : World} {v : Value} {g : Group} (h : RGI d X w v g) : RGI d' X w v g := by
  induction hd with
  | refl => exact h
  | step _ ih => exact RGI.up1 ih

end Go.Proofs.YteaapgijeehhfaaGreatDoor
