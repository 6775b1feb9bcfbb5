/- A list of nodes becomes a tree with links: plain facts. -/
/- Nodes in the heap, while a tree is built. -/
/- zzTree links a list of nodes. -/
import Derived.Test.YteaapgijeehhfaaGreatDoorZ17
import Derived.OneCell
import Derived.Test.YteaapgijeehhfaaGreatDoorZ19
set_option linter.unusedSimpArgs false
set_option linter.unusedVariables false
namespace Go.Proofs.YteaapgijeehhfaaGreatDoor
open Go.RowKit

/-- Node i of a tree of m nodes is well linked. -/
structure okNk (m i : Nat) (x : Nk) : Prop where
  parent : ∀ p, x.parent = some p → p < i
  first : ∀ p, x.first = some p → i < p ∧ p < m
  last : ∀ p, x.last = some p → i < p ∧ p < m
  prev : ∀ p, x.prev = some p → p < i
  next : ∀ p, x.next = some p → i < p ∧ p < m
  kind : 0 ≤ x.kind ∧ x.kind ≤ 4
  data : 0 < i → asc x.data
  attrs : ∀ a ∈ x.attrs, asc a.2

theorem okNk.mono {m m' i : Nat} {x : Nk} (h : okNk m i x) (hm : m ≤ m') : okNk m' i x :=
  ⟨h.parent, fun p hp => ⟨(h.first p hp).1, Nat.lt_of_lt_of_le (h.first p hp).2 hm⟩, fun p hp => ⟨(h.last p hp).1, Nat.lt_of_lt_of_le (h.last p hp).2 hm⟩, h.prev,
    fun p hp => ⟨(h.next p hp).1, Nat.lt_of_lt_of_le (h.next p hp).2 hm⟩, h.kind, h.data, h.attrs⟩

def AllNk (m : Nat) (t : List Nk) : Prop := ∀ i (h : i < t.length), okNk m i t[i]

theorem AllNk.mono {m m' : Nat} {t : List Nk} (h : AllNk m t) (hm : m ≤ m') : AllNk m' t := fun i hi => (h i hi).mono hm
theorem AllNk.modify {m : Nat} {t : List Nk} (h : AllNk m t) (j : Nat) (f : Nk → Nk) (hf : ∀ x, okNk m j x → okNk m j (f x)) : AllNk m (t.modify j f) := by
  intro i hi
  rw [List.getElem_modify]
  split
  · rename_i e; subst e; exact hf _ (h _ _)
  · exact h _ _
theorem AllNk.push {m : Nat} {t : List Nk} (h : AllNk m t) (x : Nk) (hx : okNk m t.length x) : AllNk m (t ++ [x]) := by
  intro i hi
  by_cases hlt : i < t.length
  · rw [List.getElem_append_left hlt]; exact h i hlt
  · have : i = t.length := by simp at hi; omega
    subst this
    simpa using hx
theorem AllNk.wf {t : List Nk} (h : AllNk t.length t) : WF t :=
  ⟨fun i hi => (h i hi).parent, fun i hi => (h i hi).first, fun i hi => (h i hi).last, fun i hi => (h i hi).prev, fun i hi => (h i hi).next, fun i hi => (h i hi).kind, fun i hi => (h i hi).data, fun i hi => (h i hi).attrs⟩

def mkNk (p l : Option Nat) (n : Nd) : Nk := ⟨p, none, none, l, none, n.kind, n.data, n.attrs⟩
def setNxt (v : Nat) (x : Nk) : Nk := { x with next := some v }
def setFst (v : Nat) (x : Nk) : Nk := { x with first := some v }
def setLst (v : Nat) (x : Nk) : Nk := { x with last := some v }
/-- One node more. -/
def addNd (t : List Nk) (n : Nd) : List Nk :=
  if 0 ≤ n.parent then
    match lst t n.parent.toNat with
    | some q => ((t.modify q (setNxt t.length)).modify n.parent.toNat (setLst t.length)) ++ [mkNk (some n.parent.toNat) (some q) n]
    | none => ((t.modify n.parent.toNat (setFst t.length)).modify n.parent.toNat (setLst t.length)) ++ [mkNk (some n.parent.toNat) none n]
  else t ++ [mkNk none none n]

theorem addNd_len (t : List Nk) (n : Nd) : (addNd t n).length = t.length + 1 := by
  unfold addNd; repeat' split
  all_goals simp

/-- What is asked of node k of a list. -/
structure okNd (k : Nat) (n : Nd) : Prop where
  parent : n.parent < k
  kind : 0 ≤ n.kind ∧ n.kind ≤ 4
  data : 0 < k → asc n.data
  attrs : ∀ a ∈ n.attrs, asc a.2

theorem addNd_ok {t : List Nk} {n : Nd} (h : AllNk t.length t) (hn : okNd t.length n) : AllNk (addNd t n).length (addNd t n) := by
  rw [addNd_len]
  have h1 : AllNk (t.length + 1) t := h.mono (by omega)
  unfold addNd
  by_cases hp : 0 ≤ n.parent
  · rw [if_pos hp]
    have hpl : n.parent.toNat < t.length := by have := hn.parent; omega
    have hx : ∀ q, (∀ p, q = some p → p < t.length) → okNk (t.length + 1) t.length (mkNk (some n.parent.toNat) q n) := fun q hq =>
      ⟨fun p e => by simp only [mkNk, Option.some.injEq] at e; omega, fun p e => by simp [mkNk] at e, fun p e => by simp [mkNk] at e, fun p e => hq p e, fun p e => by simp [mkNk] at e, hn.kind, hn.data, hn.attrs⟩
    cases hl : lst t n.parent.toNat with
    | some q =>
      have hq : q < t.length := ((h _ hpl).last q (by simpa [lst, hpl] using hl)).2
      have h2 : AllNk (t.length + 1) (t.modify q (setNxt t.length)) := h1.modify _ _ fun x hx => ⟨hx.parent, hx.first, hx.last, hx.prev, fun p e => by simp only [setNxt, Option.some.injEq] at e; omega, hx.kind, hx.data, hx.attrs⟩
      have h3 := h2.modify n.parent.toNat (setLst t.length) fun x hx => ⟨hx.parent, hx.first, fun p e => by simp only [setLst, Option.some.injEq] at e; omega, hx.prev, hx.next, hx.kind, hx.data, hx.attrs⟩
      refine h3.push _ ?_
      simpa using hx (some q) (fun p e => by simp only [Option.some.injEq] at e; omega)
    | none =>
      have h2 : AllNk (t.length + 1) (t.modify n.parent.toNat (setFst t.length)) := h1.modify _ _ fun x hx => ⟨hx.parent, fun p e => by simp only [setFst, Option.some.injEq] at e; omega, hx.last, hx.prev, hx.next, hx.kind, hx.data, hx.attrs⟩
      have h3 := h2.modify n.parent.toNat (setLst t.length) fun x hx => ⟨hx.parent, hx.first, fun p e => by simp only [setLst, Option.some.injEq] at e; omega, hx.prev, hx.next, hx.kind, hx.data, hx.attrs⟩
      refine h3.push _ ?_
      simpa using hx none (fun p e => by simp at e)
  · rw [if_neg hp]
    exact h1.push _ ⟨fun p e => by simp [mkNk] at e, fun p e => by simp [mkNk] at e, fun p e => by simp [mkNk] at e, fun p e => by simp [mkNk] at e, fun p e => by simp [mkNk] at e, hn.kind, hn.data, hn.attrs⟩

def treeOf (l : List Nd) : List Nk := l.foldl addNd []
theorem treeOf_snoc (l : List Nd) (n : Nd) : treeOf (l ++ [n]) = addNd (treeOf l) n := by simp [treeOf]
theorem treeOf_len (l : List Nd) : (treeOf l).length = l.length := by
  suffices h : ∀ (l : List Nd) (t : List Nk), (l.foldl addNd t).length = t.length + l.length by have := h l []; simpa [treeOf] using this
  intro l
  induction l with
  | nil => intro t; simp
  | cons n l ih => intro t; rw [List.foldl_cons, ih, addNd_len]; simp; omega

def okNds (l : List Nd) : Prop := ∀ k (h : k < l.length), okNd k l[k]

theorem treeOf_take {l : List Nd} {k : Nat} (h : k < l.length) : treeOf (l.take (k + 1)) = addNd (treeOf (l.take k)) l[k] := by
  rw [List.take_succ_eq_append_getElem h, treeOf_snoc]
theorem treeOf_all {l : List Nd} (h : okNds l) : ∀ k, k ≤ l.length → AllNk k (treeOf (l.take k)) := by
  intro k
  induction k with
  | zero => intro _ i hi; simp [treeOf] at hi
  | succ k ih =>
    intro hk
    have hlt : k < l.length := by omega
    have hlen : (treeOf (l.take k)).length = k := by rw [treeOf_len]; simp; omega
    rw [treeOf_take hlt]
    have := addNd_ok (t := treeOf (l.take k)) (n := l[k]) (by rw [hlen]; exact ih (by omega)) (by rw [hlen]; exact h k hlt)
    rwa [addNd_len, hlen] at this
theorem treeOf_wf {l : List Nd} (h : okNds l) : WF (treeOf l) := by
  have := treeOf_all h l.length (Nat.le_refl _)
  rw [List.take_length] at this
  exact AllNk.wf (by rw [treeOf_len]; exact this)

/-! Kinds stay. -/
theorem addNd_kind {t : List Nk} {n : Nd} {i : Nat} (h : i < t.length) : knd (addNd t n) i = knd t i := by
  have hm : ∀ (t : List Nk) j (f : Nk → Nk), (∀ x, (f x).kind = x.kind) → ∀ i, knd (t.modify j f) i = knd t i := by
    intro t j f hf i
    unfold knd
    rw [List.getElem?_modify]
    cases t[i]? with
    | none => rfl
    | some x => simp; split <;> simp [hf]
  have ha : ∀ (t : List Nk) x i, i < t.length → knd (t ++ [x]) i = knd t i := by
    intro t x i h
    unfold knd
    rw [List.getElem?_append_left h]
  unfold addNd
  repeat' split
  · rw [ha _ _ _ (by simpa using h), hm _ _ (setLst _) (fun _ => rfl), hm _ _ (setNxt _) (fun _ => rfl)]
  · rw [ha _ _ _ (by simpa using h), hm _ _ (setLst _) (fun _ => rfl), hm _ _ (setFst _) (fun _ => rfl)]
  · rw [ha _ _ _ h]
theorem addNd_kind_new (t : List Nk) (n : Nd) : knd (addNd t n) t.length = n.kind := by
  have ha : ∀ (u : List Nk) x, u.length = t.length → knd (u ++ [x]) t.length = x.kind := by
    intro u x h
    unfold knd
    rw [← h]; simp
  unfold addNd
  repeat' split
  all_goals rw [ha _ _ (by simp)]; rfl
theorem treeOf_kind (l : List Nd) : ∀ i (h : i < l.length), knd (treeOf l) i = l[i].kind := by
  suffices H : ∀ k, k ≤ l.length → ∀ i (h : i < l.length), i < k → knd (treeOf (l.take k)) i = l[i].kind by
    intro i h
    have := H l.length (Nat.le_refl _) i h h
    rwa [List.take_length] at this
  intro k
  induction k with
  | zero => intro _ i _ hi; omega
  | succ k ih =>
    intro hk i h hi
    have hlt : k < l.length := by omega
    have hlen : (treeOf (l.take k)).length = k := by rw [treeOf_len]; simp; omega
    rw [treeOf_take hlt]
    by_cases he : i < k
    · rw [addNd_kind (by omega)]; exact ih (by omega) i h he
    · have : i = k := by omega
      subst this
      have := addNd_kind_new (treeOf (l.take i)) l[i]
      rwa [hlen] at this

end Go.Proofs.YteaapgijeehhfaaGreatDoor

namespace Go.Proofs.YteaapgijeehhfaaGreatDoor
open Go.RowKit

theorem heap_setCell_same {w : World} {b c : Nat} {u : Value} {cs : Array Value} {ty : TypeId} {fz : Nat × Nat} (h : w.heap[b]? = some (.cells cs ty fz)) :
    (w.setCell ⟨b, c, none⟩ u).heap[b]? = some (.cells (cs.setIfInBounds c u) ty fz) := by
  have hlt := lt_of_heap h
  have h' : w.heap[b] = .cells cs ty fz := by simpa [Array.getElem?_eq_getElem hlt] using h
  show (w.heap.modify b _)[b]? = _
  rw [Array.getElem?_eq_getElem (by simpa using hlt), Array.getElem_modify_self, h']
  rfl

structure NodesAt (B : Nat) (w : World) (bl : Nat → Nat) (t : List Nk) : Prop where
  inj : ∀ i j, i < t.length → j < t.length → bl i = bl j → i = j
  ge : ∀ i, i < t.length → B ≤ bl i
  node : ∀ i (h : i < t.length), ∃ av, w.heap[bl i]? = some (.cells (nodeCells bl t[i] av) 121 (0, 0)) ∧ SlX 2 32 EAt (fun k => k < B) w av t[i].attrs

theorem KeepX.set {B b c : Nat} (w : World) (u : Value) (h : B ≤ b) : KeepX (fun k => k < B) w (w.setCell ⟨b, c, none⟩ u) := fun k _ hk => Below.heap_setCell w ⟨b, c, none⟩ u k (show k ≠ b by omega)

section
variable {B : Nat} {w w' : World} {bl : Nat → Nat} {t : List Nk}
theorem NodesAt.below (h : NodesAt B w bl t) (hb : Below w.heap.size w w') : NodesAt B w' bl t :=
  ⟨h.inj, h.ge, fun i hi => by obtain ⟨av, h1, h2⟩ := h.node i hi; exact ⟨av, heap_keep hb h1, (SlX.rep EAt.rep (by omega)).keep (KeepX.of_all hb) h2⟩⟩
theorem NodesAt.lt (h : NodesAt B w bl t) {i : Nat} (hi : i < t.length) : bl i < w.heap.size := by obtain ⟨_, h1, _⟩ := h.node i hi; exact lt_of_heap h1
theorem NodesAt.modify (h : NodesAt B w bl t) (j : Nat) (hj : j < t.length) (f : Nk → Nk) (c : Nat) (u : Value) (hf : ∀ x av, nodeCells bl (f x) av = (nodeCells bl x av).setIfInBounds c u) (hfa : ∀ x, (f x).attrs = x.attrs) :
    NodesAt B (w.setCell ⟨bl j, c, none⟩ u) bl (t.modify j f) := by
  refine ⟨fun i k hi hk => h.inj i k (by simpa using hi) (by simpa using hk), fun i hi => h.ge i (by simpa using hi), fun i hi => ?_⟩
  have hi' : i < t.length := by simpa using hi
  obtain ⟨av, h1, h2⟩ := h.node i hi'
  have hk := (SlX.rep (sz := 2) (bt := 32) EAt.rep (by omega)).keep (KeepX.set (c := c) w u (h.ge j hj)) h2
  refine ⟨av, ?_, ?_⟩
  · rw [List.getElem_modify]
    by_cases e : j = i
    · subst e
      rw [if_pos rfl, heap_setCell_same h1, hf]
    · rw [if_neg e, Below.heap_setCell w ⟨bl j, c, none⟩ u (bl i) (fun q => e (h.inj i j hi' hj q).symm)]
      exact h1
  · rw [List.getElem_modify]
    split
    · rw [hfa]; exact hk
    · exact hk
theorem NodesAt.ext {bl' : Nat → Nat} (h : NodesAt B w bl t) (hl : AllNk t.length t) (he : ∀ i, i < t.length → bl' i = bl i) : NodesAt B w bl' t := by
  refine ⟨fun i j hi hj e => h.inj i j hi hj (by rw [← he i hi, ← he j hj]; exact e), fun i hi => by rw [he i hi]; exact h.ge i hi, fun i hi => ?_⟩
  obtain ⟨av, h1, h2⟩ := h.node i hi
  have hk := hl i hi
  have hp : ∀ o : Option Nat, (∀ p, o = some p → p < t.length) → ptr bl' o = ptr bl o := fun o ho => by
    cases o with
    | none => rfl
    | some p => simp only [ptr, Option.map_some, he p (ho p rfl)]
  refine ⟨av, ?_, h2⟩
  rw [he i hi, h1]
  unfold nodeCells
  rw [hp _ (fun p e => by have := hk.parent p e; omega), hp _ (fun p e => (hk.first p e).2), hp _ (fun p e => (hk.last p e).2), hp _ (fun p e => by have := hk.prev p e; omega), hp _ (fun p e => (hk.next p e).2)]
theorem NodesAt.push (h : NodesAt B w bl t) (x : Nk) (av : Value) (hB : B ≤ bl t.length) (hne : ∀ i, i < t.length → bl i ≠ bl t.length)
    (h1 : w.heap[bl t.length]? = some (.cells (nodeCells bl x av) 121 (0, 0))) (h2 : SlX 2 32 EAt (fun k => k < B) w av x.attrs) : NodesAt B w bl (t ++ [x]) := by
  refine ⟨fun i j hi hj e => ?_, fun i hi => ?_, fun i hi => ?_⟩
  · simp only [List.length_append, List.length_singleton] at hi hj
    by_cases a : i < t.length
    · by_cases b : j < t.length
      · exact h.inj i j a b e
      · obtain rfl : j = t.length := by omega
        exact absurd e (hne i a)
    · obtain rfl : i = t.length := by omega
      by_cases b : j < t.length
      · exact absurd e.symm (hne j b)
      · omega
  · by_cases a : i < t.length
    · exact h.ge i a
    · obtain rfl : i = t.length := by simp at hi; omega
      exact hB
  · by_cases a : i < t.length
    · rw [List.getElem_append_left a]; exact h.node i a
    · obtain rfl : i = t.length := by simp at hi; omega
      exact ⟨av, by simpa using h1, by simpa using h2⟩
theorem NodesAt.grown {row : Option Nat} (h : NodesAt B w bl t) (hG : w.grownBy w' row) (hne : ∀ i, i < t.length → row ≠ some (bl i)) (hB : ∀ k, row = some k → B ≤ k) : NodesAt B w' bl t :=
  ⟨h.inj, h.ge, fun i hi => by
    obtain ⟨av, h1, h2⟩ := h.node i hi
    exact ⟨av, by rw [hG.block (bl i) (lt_of_heap h1) (fun e => hne i hi e.symm)]; exact h1, (SlX.rep EAt.rep (by omega)).keep (fun k hk hx => hG.block k hk (fun e => by have := hB k e.symm; omega)) h2⟩⟩
theorem NodesAt.tree (h : NodesAt B w bl t) (hw : WF t) : TreeAt w bl t :=
  ⟨hw, h.inj, fun i hi => by obtain ⟨av, h1, h2⟩ := h.node i hi; exact ⟨av, h1, (SlX.rep EAt.rep (by omega)).mono (fun _ _ => trivial) h2⟩⟩
theorem NodesAt.cell (h : NodesAt B w bl t) {i : Nat} (hi : i < t.length) : ∃ av, w.heap[bl i]? = some (.cells #[ptr bl (par t i), ptr bl (fst t i), ptr bl (lst t i), ptr bl (prv t i), ptr bl (nxt t i), .int .u32 (knd t i), .string (dat t i), av] 121 (0, 0)) := by
  obtain ⟨av, h1, _⟩ := h.node i hi
  exact ⟨av, by rw [h1]; simp [nodeCells, par, fst, lst, prv, nxt, knd, dat, hi]⟩
end

/-! The links of one node. -/
theorem cells_par (bl : Nat → Nat) (v : Nat) (x : Nk) (av : Value) : nodeCells bl { x with parent := some v } av = (nodeCells bl x av).setIfInBounds 0 (.pointer (some ⟨bl v, 0, none⟩)) := rfl
theorem cells_prv (bl : Nat → Nat) (o : Option Nat) (x : Nk) (av : Value) : nodeCells bl { x with prev := o } av = (nodeCells bl x av).setIfInBounds 3 (ptr bl o) := rfl
theorem cells_nxt (bl : Nat → Nat) (v : Nat) (x : Nk) (av : Value) : nodeCells bl (setNxt v x) av = (nodeCells bl x av).setIfInBounds 4 (.pointer (some ⟨bl v, 0, none⟩)) := rfl
theorem cells_fst (bl : Nat → Nat) (v : Nat) (x : Nk) (av : Value) : nodeCells bl (setFst v x) av = (nodeCells bl x av).setIfInBounds 1 (.pointer (some ⟨bl v, 0, none⟩)) := rfl
theorem cells_lst (bl : Nat → Nat) (v : Nat) (x : Nk) (av : Value) : nodeCells bl (setLst v x) av = (nodeCells bl x av).setIfInBounds 2 (.pointer (some ⟨bl v, 0, none⟩)) := rfl

theorem modify_last {t : List Nk} {x : Nk} (f : Nk → Nk) : (t ++ [x]).modify t.length f = t ++ [f x] := by
  apply List.ext_getElem (by simp)
  intro i h1 h2
  rw [List.getElem_modify]
  by_cases a : i < t.length
  · rw [if_neg (by omega), List.getElem_append_left a, List.getElem_append_left a]
  · have : i = t.length := by simp at h1; omega
    subst this
    simp
theorem modify_left {t : List Nk} {x : Nk} {j : Nat} (hj : j < t.length) (f : Nk → Nk) : (t ++ [x]).modify j f = t.modify j f ++ [x] := by
  apply List.ext_getElem (by simp)
  intro i h1 h2
  rw [List.getElem_modify]
  by_cases a : i < t.length
  · rw [List.getElem_append_left a, List.getElem_append_left (by simpa using a), List.getElem_modify]
  · have : i = t.length := by simp at h1; omega
    subst this
    rw [if_neg (by omega)]
    simp

/-! The list of the nodes' pointers. -/
def EP (_ : Nat → Prop) (_ : World) (cs : List Value) (b : Nat) : Prop := cs = [.pointer (some ⟨b, 0, none⟩)]
theorem EP.rep : ElemRep EP := ⟨fun _ h => h, fun h => h, fun _ h => h⟩
theorem row_set {B : Nat} {w : World} {v : Value} {l : List Nat} {b c : Nat} {u : Value} (h : OwnRep B 95 1 8 EP w v l) (hne : v.ownBlock ≠ some b) : OwnRep B 95 1 8 EP (w.setCell ⟨b, c, none⟩ u) v l := by
  obtain ⟨css, h1, h2, h3, h4, h5⟩ := h
  exact ⟨css, h1, h2, ownsRow_setCell_other h3 hne u, h4, fun j hj hj' => h5 j hj hj'⟩
theorem row_cell {B : Nat} {w : World} {v : Value} {l : List Nat} (h : OwnRep B 95 1 8 EP w v l) {i : Nat} (hi : i < l.length) :
    ∃ b o cap, v = .slice (some ⟨b, o, none⟩) l.length cap ∧ w.cell? ⟨b, o + i, none⟩ = some (.pointer (some ⟨l[i], 0, none⟩)) := by
  rcases SlX.view (OwnRep.slice EP.rep h) (by omega) with ⟨rfl, _⟩ | ⟨b, o, cap, rfl, _, _, _, _, hc⟩
  · simp at hi
  · obtain ⟨cs, _, h2, h3⟩ := hc i hi
    have h3 : cs = [.pointer (some ⟨l[i], 0, none⟩)] := h3
    exact ⟨b, o, cap, rfl, by simpa using h2 0 _ (by rw [h3]; rfl)⟩

end Go.Proofs.YteaapgijeehhfaaGreatDoor

namespace Go.Proofs.YteaapgijeehhfaaGreatDoor
open Go.RowKit

theorem info95 : (Tryz.prog.info? 95).map (fun i => (i.zero, i.size, i.bytes)) = some (some (.pointer none), 1, 8) := by kernel_rfl
def blf (bls : List Nat) (i : Nat) : Nat := bls.getD i 0

/-- What stands while the tree is built. -/
structure Grow (w wr : World) (l : List Nd) (k : Nat) (ov : Value) (bls : List Nat) : Prop where
  row : OwnRep w.heap.size 95 1 8 EP wr ov bls
  len : bls.length = k
  nodes : NodesAt w.heap.size wr (blf bls) (treeOf (l.take k))
  ne : ∀ b ∈ bls, ov.ownBlock ≠ some b
  below : Below w.heap.size w wr

theorem blf_left {bls : List Nat} {b i : Nat} (h : i < bls.length) : blf (bls ++ [b]) i = blf bls i := by
  unfold blf; rw [List.getD_eq_getElem?_getD, List.getD_eq_getElem?_getD, List.getElem?_append_left h]
theorem blf_last (bls : List Nat) (b : Nat) : blf (bls ++ [b]) bls.length = b := by simp [blf]
theorem blf_get {bls : List Nat} {i : Nat} (h : i < bls.length) : blf bls i = bls[i] := by simp [blf, h]

theorem news_at (W : World) (N : Nat) (ys : List Value) (e : TypeId) (hN : N = W.heap.size) : ∀ j u, ys[j]? = some u → (W.alloc (.cells ys.toArray e)).cell? ((⟨N, 0, none⟩ : Addr).add j) = some u := by
  subst hN; exact news_alloc W ys e

theorem Grow.tlen {w wr : World} {l : List Nd} {k : Nat} {ov : Value} {bls : List Nat} (_ : Grow w wr l k ov bls) (hk : k ≤ l.length) : (treeOf (l.take k)).length = k := by rw [treeOf_len]; simp; omega
theorem Grow.base {w wr : World} {l : List Nd} {k : Nat} {ov : Value} {bls : List Nat} (h : Grow w wr l k ov bls) (hok : okNds l) (hk : k ≤ l.length) (X0 : Obj) (x : Nk) (av : Value)
    (hs : SlX 2 32 EAt (fun k => k < w.heap.size) wr av x.attrs) :
    NodesAt w.heap.size ((wr.alloc X0).alloc (.cells (nodeCells (blf (bls ++ [wr.heap.size + 1])) x av) 121)) (blf (bls ++ [wr.heap.size + 1])) (treeOf (l.take k) ++ [x]) := by
  have hlen := h.tlen hk
  have hb : Below wr.heap.size wr ((wr.alloc X0).alloc (.cells (nodeCells (blf (bls ++ [wr.heap.size + 1])) x av) 121)) := (below_alloc wr X0).alloc (Below.size (below_alloc wr _)) _
  have hN : blf (bls ++ [wr.heap.size + 1]) (treeOf (l.take k)).length = wr.heap.size + 1 := by rw [hlen, ← h.len]; exact blf_last _ _
  have hall : AllNk (treeOf (l.take k)).length (treeOf (l.take k)) := by rw [hlen]; exact treeOf_all hok k hk
  have he : ∀ i, i < (treeOf (l.take k)).length → blf (bls ++ [wr.heap.size + 1]) i = blf bls i := fun i hi => blf_left (by rw [h.len]; omega)
  refine ((h.nodes.below hb).ext hall he).push x av ?_ ?_ ?_ ?_
  · rw [hN]; have := h.below.size; omega
  · intro i hi e
    rw [hN, he i hi] at e
    have := h.nodes.lt hi
    omega
  · rw [hN]
    have := heap_alloc_new (wr.alloc X0) (.cells (nodeCells (blf (bls ++ [wr.heap.size + 1])) x av) 121)
    simpa using this
  · exact (SlX.rep EAt.rep (by omega)).keep (KeepX.of_all hb) hs
theorem set_deep (w : World) (X Y : Obj) (n i : Nat) (v : Value) (hn : n < w.heap.size) : ((w.alloc X).alloc Y).setCell ⟨n, i, none⟩ v = ((w.setCell ⟨n, i, none⟩ v).alloc X).alloc Y := by
  rw [World.setCell_alloc_past _ _ _ _ (by simp; omega), World.setCell_alloc_past _ _ _ _ hn]
theorem Grow.next {w wr W w1 : World} {l : List Nd} {k : Nat} {ov : Value} {bls : List Nat} {gg cap : Nat} (h : Grow w wr l k ov bls) (hk : k < l.length)
    (hn : NodesAt w.heap.size W (blf (bls ++ [wr.heap.size + 1])) (treeOf (l.take (k + 1)))) (hW : Below w.heap.size w W) (o : Obj)
    (hO : OwnRep w.heap.size 95 1 8 EP w1 (.slice (some ⟨gg, 0, none⟩) (bls.length + 1) cap) (bls ++ [wr.heap.size + 1])) (hG : (W.alloc o).grownBy w1 ov.ownBlock) (hat : ov.ownBlock = some gg ∨ wr.heap.size + 2 ≤ gg) :
    Grow w w1 l (k + 1) (.slice (some ⟨gg, 0, none⟩) (k + 1) cap) (bls ++ [wr.heap.size + 1]) := by
  have hbl := h.row.block_lt
  have hlen : (treeOf (l.take (k + 1))).length = k + 1 := by rw [treeOf_len]; simp; omega
  have hlt : ∀ b ∈ bls, b < wr.heap.size := fun b hb => by
    obtain ⟨i, hi, rfl⟩ := List.mem_iff_getElem.1 hb
    have := h.nodes.lt (i := i) (by rw [h.tlen (by omega)]; rw [h.len] at hi; exact hi)
    rwa [blf_get hi] at this
  have hs2 : (W.alloc o).heap.size = W.heap.size + 1 := by simp
  refine ⟨by rw [← h.len]; exact hO, by simp [h.len], ?_, ?_, ?_⟩
  · refine (hn.below (below_alloc W o)).grown hG ?_ (fun j hj => (hbl j hj).1)
    intro i hi e
    rw [hlen] at hi
    have hr := hbl _ e
    by_cases a : i < k
    · rw [blf_left (by rw [h.len]; exact a), blf_get (by rw [h.len]; exact a)] at e
      exact h.ne _ (List.getElem_mem _) e
    · obtain rfl : i = bls.length := by rw [h.len]; omega
      rw [blf_last] at hr
      omega
  · intro b hb e
    have e2 : gg = b := by simpa [Value.ownBlock] using e
    subst e2
    rcases List.mem_append.1 hb with hb | hb
    · rcases hat with hat | hat
      · exact h.ne _ hb hat
      · have := hlt _ hb; omega
    · have hgN : gg = wr.heap.size + 1 := by simpa using hb
      rcases hat with hat | hat
      · have := (hbl _ hat).2; omega
      · omega
  · exact below_grown (hW.alloc hW.size o) hG (by have := hW.size; omega) (fun j hj => (hbl j hj).1)

theorem node_root {t : List Nk} {n : Nd} (hp : ¬ 0 ≤ n.parent) : addNd t n = t ++ [mkNk none none n] := by unfold addNd; rw [if_neg hp]
theorem node_none {t : List Nk} {n : Nd} {p : Nat} (hp : n.parent = p) (hpt : p < t.length) (hl : lst t p = none) :
    addNd t n = ((t ++ [mkNk (some p) none n]).modify p (setFst t.length)).modify p (setLst t.length) := by
  have e : n.parent.toNat = p := by omega
  unfold addNd
  rw [if_pos (by omega), e, hl, modify_left hpt, modify_left (by simpa using hpt)]
theorem node_some {t : List Nk} {n : Nd} {p q : Nat} (hp : n.parent = p) (hpt : p < t.length) (hqt : q < t.length) (hl : lst t p = some q) :
    addNd t n = ((t ++ [mkNk (some p) (some q) n]).modify q (setNxt t.length)).modify p (setLst t.length) := by
  have e : n.parent.toNat = p := by omega
  unfold addNd
  rw [if_pos (by omega), e, hl, modify_left hqt, modify_left (by simpa using hpt)]

def TreePost (l : List Nd) (w : World) (e : Ending) (w' : World) : Prop :=
  ∃ b o cap bl, e = .returned (.slice (some ⟨b, o, none⟩) l.length cap) ∧ TreeAt w' bl (treeOf l) ∧ (∀ i, i < l.length → w'.cell? ⟨b, o + i, none⟩ = some (.pointer (some ⟨bl i, 0, none⟩))) ∧ Below w.heap.size w w'

set_option maxRecDepth 100000 in
set_option maxHeartbeats 8000000 in
theorem zzTree_any (X : Nat → Prop) (w : World) (v : Value) (l : List Nd) (h : SlX 4 56 (ENd .u32) X w v l) (hok : okNds l) (hpos : 0 < l.length) (hlen : l.length ≤ 1000) :
    Calls Tryz.prog 39 #[v] w (TreePost l w) := by
  have HV := Lib.hid (SlX.view h (by omega))
  obtain ⟨a, cap, hv, hgl⟩ := SlX.len h (by omega)
  have HN := Lib.hid ((SlX.rep (ENd.rep .u32) (by omega)).lt h)
  have HOK := Lib.hid hok
  clear h hok
  subst hv
  go_enter Tryz.func39, Tryz.ntmps39
  go_wp2_with fail
  go_loopw [3, 10] (fun ov i wr => ∃ k : Nat, ∃ bls, k ≤ l.length ∧ i = .int .i64 k ∧ Grow w wr l k ov bls) (fun _ i _ => l.length - (intOf i).toNat)
  case atStart => exact ⟨0, [], Nat.zero_le _, rfl, OwnRep.nil _ _ _ _ _ _, rfl, ⟨fun i j hi => by simp [treeOf] at hi, fun i hi => by simp [treeOf] at hi, fun i hi => by simp [treeOf] at hi⟩, fun b hb => by simp at hb, Below.refl _ _⟩
  case round =>
    obtain ⟨k, bls, hk, rfl, hgr⟩ := hrel
    obtain ⟨oa, oc, rfl⟩ := hgr.row.val k hgr.len
    have HG := Lib.hid hgr
    by_cases hlt : k < l.length
    · rcases HV.out with ⟨rfl, _⟩ | ⟨b, o, cap', hve, hX, _, hcb, _, hc⟩
      · simp at hlt
      · simp only [Value.slice.injEq, true_and] at hve
        obtain ⟨rfl, rfl⟩ := hve
        obtain ⟨cs, hcs1, hcs2, av, hcs3, hz1, hz2, hz3, hSl⟩ := hc k hlt
        subst hcs3
        have f0 := cell_keep hgr.below (by simpa using hcs2 0 _ rfl)
        have f1 := cell_keep hgr.below (by simpa using hcs2 1 _ rfl)
        have f2 := cell_keep hgr.below (by simpa using hcs2 2 _ rfl)
        have f3 := cell_keep hgr.below (by simpa using hcs2 3 _ rfl)
        clear hcs1 hcs2 hc
        have hn := HOK.out k hlt
        obtain ⟨n, hnd⟩ : ∃ n, l[k] = n := ⟨_, rfl⟩
        rw [hnd] at f0 f1 f2 hz1 hz2 hz3 hSl hn
        have hp0 := hn.parent
        have HS := Lib.hid hSl
        obtain ⟨ava, avc, rfl, hal⟩ := SlX.len hSl (by omega)
        clear hgr hSl
        have HSB := Lib.hid (show SlX 2 32 EAt (fun k => k < w.heap.size) wr (.slice ava n.attrs.length avc) n.attrs from (SlX.rep EAt.rep (by omega)).keep (KeepX.of_below HG.out.below) ((SlX.rep EAt.rep (by omega)).mono (fun _ h => h.2) ((SlX.rep EAt.rep (by omega)).lt HS.out)))
        have hAN := HOK.out
        by_cases hp : 0 ≤ n.parent
        · obtain ⟨p, hpe⟩ : ∃ p : Nat, n.parent = p := ⟨n.parent.toNat, by omega⟩
          rw [hpe] at f0
          have hpk : p < k := by omega
          obtain ⟨rb, ro, rc, hre, hrc⟩ := row_cell HG.out.row (i := p) (by rw [HG.out.len]; exact hpk)
          simp only [Value.slice.injEq] at hre
          obtain ⟨rfl, hkb, rfl⟩ := hre
          clear hkb
          obtain ⟨P, hPd⟩ : ∃ P, bls[p]'(by rw [HG.out.len]; exact hpk) = P := ⟨_, rfl⟩
          rw [hPd] at hrc
          have hrl := lt_of_cell hrc
          obtain ⟨avp, hPh⟩ := HG.out.nodes.cell (i := p) (by rw [HG.out.tlen hk]; exact hpk)
          rw [blf_get (by rw [HG.out.len]; exact hpk), hPd] at hPh
          have hPl := lt_of_heap hPh
          have p1 := cell_of_heap hPh 1
          have p2 := cell_of_heap hPh 2
          have pf1 := free_of_heap hPh 1
          have pf2 := free_of_heap hPh 2
          cases hls : lst (treeOf (l.take k)) p with
          | none =>
            rw [hls] at p2
            simp only [ptr, Option.map_none] at p2
            have hb1 := (below_alloc wr (.cells #[.int .i64 p, .int .u32 n.kind, .string n.data, .slice ava n.attrs.length avc] 102)).alloc (Below.size (below_alloc wr _)) (.cells #[.pointer (some ⟨P, 0, none⟩), .pointer none, .pointer none, .pointer none, .pointer none, .int .u32 n.kind, .string n.data, .slice ava n.attrs.length avc] 121)
            have hnodes := HG.out.base hAN (by omega) (.cells #[.int .i64 p, .int .u32 n.kind, .string n.data, .slice ava n.attrs.length avc] 102) (mkNk (some p) none n) _ HSB.out
            have hNk : blf (bls ++ [wr.heap.size + 1]) (treeOf (l.take k)).length = wr.heap.size + 1 := by rw [HG.out.tlen hk, ← HG.out.len]; exact blf_last _ _
            have hNp : blf (bls ++ [wr.heap.size + 1]) p = P := by rw [blf_left (by rw [HG.out.len]; exact hpk), blf_get (by rw [HG.out.len]; exact hpk), hPd]
            have hpt : p < (treeOf (l.take k)).length := by rw [HG.out.tlen hk]; exact hpk
            have hn1 := (hnodes.modify p (by simp; omega) (setFst (treeOf (l.take k)).length) 1 _ (fun x av => cells_fst _ _ x av) (fun _ => rfl)).modify p (by simp; omega) (setLst (treeOf (l.take k)).length) 2 _ (fun x av => cells_lst _ _ x av) (fun _ => rfl)
            rw [← node_none hpe hpt hls, ← hnd, ← treeOf_take hlt, hnd, hNk, hNp] at hn1
            have hcells : nodeCells (blf (bls ++ [wr.heap.size + 1])) (mkNk (some p) none n) (.slice ava n.attrs.length avc) = #[.pointer (some ⟨P, 0, none⟩), .pointer none, .pointer none, .pointer none, .pointer none, .int .u32 n.kind, .string n.data, .slice ava n.attrs.length avc] := by
              simp only [nodeCells, mkNk, ptr, Option.map_some, Option.map_none, hNp]
            have hPB0 : w.heap.size ≤ P := by have := hnodes.ge p (by simp; omega); rwa [hNp] at this
            have hQB0 := hPB0
            have hW : ((((wr.alloc (.cells #[.int .i64 p, .int .u32 n.kind, .string n.data, .slice ava n.attrs.length avc] 102)).alloc (.cells #[.pointer (some ⟨P, 0, none⟩), .pointer none, .pointer none, .pointer none, .pointer none, .int .u32 n.kind, .string n.data, .slice ava n.attrs.length avc] 121)).setCell ⟨P, 1, none⟩ (.pointer (some ⟨wr.heap.size + 1, 0, none⟩))).setCell ⟨P, 2, none⟩ (.pointer (some ⟨wr.heap.size + 1, 0, none⟩))) = ((((wr.setCell ⟨P, 1, none⟩ (.pointer (some ⟨wr.heap.size + 1, 0, none⟩))).setCell ⟨P, 2, none⟩ (.pointer (some ⟨wr.heap.size + 1, 0, none⟩))).alloc (.cells #[.int .i64 p, .int .u32 n.kind, .string n.data, .slice ava n.attrs.length avc] 102)).alloc (.cells #[.pointer (some ⟨P, 0, none⟩), .pointer none, .pointer none, .pointer none, .pointer none, .int .u32 n.kind, .string n.data, .slice ava n.attrs.length avc] 121)) := by
              rw [set_deep _ _ _ _ _ _ hPl, set_deep _ _ _ _ _ _ (by simpa [World.setCell] using hPl)]
            have hrow := row_set (c := 2) (u := .pointer (some ⟨wr.heap.size + 1, 0, none⟩)) (row_set (c := 1) (u := .pointer (some ⟨wr.heap.size + 1, 0, none⟩)) (OwnRep.below EP.rep hb1 HG.out.row) (HG.out.ne P (by rw [← hPd]; exact List.getElem_mem _))) (HG.out.ne P (by rw [← hPd]; exact List.getElem_mem _))
            have hbw := ((HG.out.below.trans (hb1.mono HG.out.below.size)).setCell (p := ⟨P, 1, none⟩) hQB0 (.pointer (some ⟨wr.heap.size + 1, 0, none⟩))).setCell (p := ⟨P, 2, none⟩) hPB0 (.pointer (some ⟨wr.heap.size + 1, 0, none⟩))
            rw [hcells, hW] at hn1
            rw [hW] at hrow hbw
            have HND := Lib.hid hn1
            have HROW := Lib.hid (OwnRep.below EP.rep (below_alloc _ (.cells #[.pointer (some ⟨wr.heap.size + 1, 0, none⟩)] 95)) hrow)
            have HBW := Lib.hid hbw
            clear hPB0 hQB0 hb1 hnodes hn1 hrow hcells hNk hNp hpt hW hbw hPh
            go_wp2_with ((at_builtin; refine wpList_push EP.rep w.heap.size rfl (.tmp 61) (.tmp 63) 96 95 (.pointer none) 1 8 rfl Tryz.underlying96 info95 rfl (by decide) (by decide) (.slice (some ⟨rb, ro, none⟩) k oc) bls [.pointer (some ⟨wr.heap.size + 1, 0, none⟩)] (wr.heap.size + 1) ⟨wr.heap.size + 2, 0, none⟩ rfl rfl rfl ?c1 (news_at _ _ _ _ (by simp [World.setCell])) ?c3 rfl ?c5 ?c6 ?_))
            case c1 => first | rfl | (intro u hu; simp at hu; subst hu; rfl)
            case c3 => exact HROW.out
            case c5 => first | (have := HG.out.below.size; omega) | (have := HG.out.below.size; simp [World.setCell]; omega)
            case c6 => rw [HG.out.len]; omega
            · intro gg cap1 w1 hO hG hat hgl
              have hnext := Lib.hid (HG.out.next hlt HND.out HBW.out _ hO hG (hat.imp id (fun h => by omega)))
              have e1 : bls.length + 1 = k + 1 := by rw [HG.out.len]
              rw [e1]
              clear hO hG hat
              go_wp2_with fail
              go_roundw
              case rel => exact ⟨k + 1, _, by omega, by go_num, hnext.out⟩
              case measure => simp [intOf]; omega
          | some q =>
            have hqk : q < k := by
              have h1 := (treeOf_all HOK.out k hk p (by rw [HG.out.tlen hk]; exact hpk)).last q (by have h2 := hls; rw [lst, List.getElem?_eq_getElem (by rw [HG.out.tlen hk]; exact hpk)] at h2; exact h2)
              exact h1.2
            have hpq : p < q := by
              have h1 := (treeOf_all HOK.out k hk p (by rw [HG.out.tlen hk]; exact hpk)).last q (by have h2 := hls; rw [lst, List.getElem?_eq_getElem (by rw [HG.out.tlen hk]; exact hpk)] at h2; exact h2)
              exact h1.1
            obtain ⟨Q, hQd⟩ : ∃ Q, bls[q]'(by rw [HG.out.len]; exact hqk) = Q := ⟨_, rfl⟩
            have hbq : blf bls q = Q := by rw [blf_get (by rw [HG.out.len]; exact hqk), hQd]
            obtain ⟨avq, hQh⟩ := HG.out.nodes.cell (i := q) (by rw [HG.out.tlen hk]; exact hqk)
            rw [hbq] at hQh
            have hQl := lt_of_heap hQh
            have hQP : ¬ Q = P := fun e => by
              have := HG.out.nodes.inj q p (by rw [HG.out.tlen hk]; exact hqk) (by rw [HG.out.tlen hk]; exact hpk) (by rw [hbq, blf_get (by rw [HG.out.len]; exact hpk), hPd]; exact e)
              omega
            have hPQ : ¬ P = Q := fun e => hQP e.symm
            have q4 := cell_of_heap hQh 4
            have qf4 := free_of_heap hQh 4
            rw [hls] at p2
            simp only [ptr, Option.map_some, hbq] at p2
            have hb1 := (below_alloc wr (.cells #[.int .i64 p, .int .u32 n.kind, .string n.data, .slice ava n.attrs.length avc] 102)).alloc (Below.size (below_alloc wr _)) (.cells #[.pointer (some ⟨P, 0, none⟩), .pointer none, .pointer none, .pointer (some ⟨Q, 0, none⟩), .pointer none, .int .u32 n.kind, .string n.data, .slice ava n.attrs.length avc] 121)
            have hnodes := HG.out.base hAN (by omega) (.cells #[.int .i64 p, .int .u32 n.kind, .string n.data, .slice ava n.attrs.length avc] 102) (mkNk (some p) (some q) n) _ HSB.out
            have hNk : blf (bls ++ [wr.heap.size + 1]) (treeOf (l.take k)).length = wr.heap.size + 1 := by rw [HG.out.tlen hk, ← HG.out.len]; exact blf_last _ _
            have hNp : blf (bls ++ [wr.heap.size + 1]) p = P := by rw [blf_left (by rw [HG.out.len]; exact hpk), blf_get (by rw [HG.out.len]; exact hpk), hPd]
            have hpt : p < (treeOf (l.take k)).length := by rw [HG.out.tlen hk]; exact hpk
            have hNq : blf (bls ++ [wr.heap.size + 1]) q = Q := by rw [blf_left (by rw [HG.out.len]; exact hqk), hbq]
            have hqt : q < (treeOf (l.take k)).length := by rw [HG.out.tlen hk]; exact hqk
            have hn1 := (hnodes.modify q (by simp; omega) (setNxt (treeOf (l.take k)).length) 4 _ (fun x av => cells_nxt _ _ x av) (fun _ => rfl)).modify p (by simp; omega) (setLst (treeOf (l.take k)).length) 2 _ (fun x av => cells_lst _ _ x av) (fun _ => rfl)
            rw [← node_some hpe hpt hqt hls, ← hnd, ← treeOf_take hlt, hnd, hNk, hNp, hNq] at hn1
            have hcells : nodeCells (blf (bls ++ [wr.heap.size + 1])) (mkNk (some p) (some q) n) (.slice ava n.attrs.length avc) = #[.pointer (some ⟨P, 0, none⟩), .pointer none, .pointer none, .pointer (some ⟨Q, 0, none⟩), .pointer none, .int .u32 n.kind, .string n.data, .slice ava n.attrs.length avc] := by
              simp only [nodeCells, mkNk, ptr, Option.map_some, Option.map_none, hNp, hNq]
            have hPB0 : w.heap.size ≤ P := by have := hnodes.ge p (by simp; omega); rwa [hNp] at this
            have hQB0 : w.heap.size ≤ Q := by have := hnodes.ge q (by simp; omega); rwa [hNq] at this
            have hW : ((((wr.alloc (.cells #[.int .i64 p, .int .u32 n.kind, .string n.data, .slice ava n.attrs.length avc] 102)).alloc (.cells #[.pointer (some ⟨P, 0, none⟩), .pointer none, .pointer none, .pointer (some ⟨Q, 0, none⟩), .pointer none, .int .u32 n.kind, .string n.data, .slice ava n.attrs.length avc] 121)).setCell ⟨Q, 4, none⟩ (.pointer (some ⟨wr.heap.size + 1, 0, none⟩))).setCell ⟨P, 2, none⟩ (.pointer (some ⟨wr.heap.size + 1, 0, none⟩))) = ((((wr.setCell ⟨Q, 4, none⟩ (.pointer (some ⟨wr.heap.size + 1, 0, none⟩))).setCell ⟨P, 2, none⟩ (.pointer (some ⟨wr.heap.size + 1, 0, none⟩))).alloc (.cells #[.int .i64 p, .int .u32 n.kind, .string n.data, .slice ava n.attrs.length avc] 102)).alloc (.cells #[.pointer (some ⟨P, 0, none⟩), .pointer none, .pointer none, .pointer (some ⟨Q, 0, none⟩), .pointer none, .int .u32 n.kind, .string n.data, .slice ava n.attrs.length avc] 121)) := by
              rw [set_deep _ _ _ _ _ _ hQl, set_deep _ _ _ _ _ _ (by simpa [World.setCell] using hPl)]
            have hrow := row_set (c := 2) (u := .pointer (some ⟨wr.heap.size + 1, 0, none⟩)) (row_set (c := 4) (u := .pointer (some ⟨wr.heap.size + 1, 0, none⟩)) (OwnRep.below EP.rep hb1 HG.out.row) (HG.out.ne Q (by rw [← hQd]; exact List.getElem_mem _))) (HG.out.ne P (by rw [← hPd]; exact List.getElem_mem _))
            have hbw := ((HG.out.below.trans (hb1.mono HG.out.below.size)).setCell (p := ⟨Q, 4, none⟩) hQB0 (.pointer (some ⟨wr.heap.size + 1, 0, none⟩))).setCell (p := ⟨P, 2, none⟩) hPB0 (.pointer (some ⟨wr.heap.size + 1, 0, none⟩))
            rw [hcells, hW] at hn1
            rw [hW] at hrow hbw
            have HND := Lib.hid hn1
            have HROW := Lib.hid (OwnRep.below EP.rep (below_alloc _ (.cells #[.pointer (some ⟨wr.heap.size + 1, 0, none⟩)] 95)) hrow)
            have HBW := Lib.hid hbw
            clear hPB0 hQB0 hb1 hnodes hn1 hrow hcells hNk hNp hpt hW hbw hPh hqt hNq hbq hQh hpq
            go_wp2_with ((at_builtin; refine wpList_push EP.rep w.heap.size rfl (.tmp 61) (.tmp 63) 96 95 (.pointer none) 1 8 rfl Tryz.underlying96 info95 rfl (by decide) (by decide) (.slice (some ⟨rb, ro, none⟩) k oc) bls [.pointer (some ⟨wr.heap.size + 1, 0, none⟩)] (wr.heap.size + 1) ⟨wr.heap.size + 2, 0, none⟩ rfl rfl rfl ?c1 (news_at _ _ _ _ (by simp [World.setCell])) ?c3 rfl ?c5 ?c6 ?_))
            case c1 => first | rfl | (intro u hu; simp at hu; subst hu; rfl)
            case c3 => exact HROW.out
            case c5 => first | (have := HG.out.below.size; omega) | (have := HG.out.below.size; simp [World.setCell]; omega)
            case c6 => rw [HG.out.len]; omega
            · intro gg cap1 w1 hO hG hat hgl
              have hnext := Lib.hid (HG.out.next hlt HND.out HBW.out _ hO hG (hat.imp id (fun h => by omega)))
              have e1 : bls.length + 1 = k + 1 := by rw [HG.out.len]
              rw [e1]
              clear hO hG hat
              go_wp2_with fail
              go_roundw
              case rel => exact ⟨k + 1, _, by omega, by go_num, hnext.out⟩
              case measure => simp [intOf]; omega
        · have hp1 : ¬ (0 ≤ n.parent) := hp
          have hnodes := HG.out.base hAN (by omega) (.cells #[.int .i64 n.parent, .int .u32 n.kind, .string n.data, .slice ava n.attrs.length avc] 102) (mkNk none none n) _ HSB.out
          rw [← node_root hp, ← hnd, ← treeOf_take hlt, hnd] at hnodes
          have HND := Lib.hid hnodes
          clear hnodes
          go_wp2_with ((at_builtin; refine wpList_push EP.rep w.heap.size rfl (.tmp 61) (.tmp 63) 96 95 (.pointer none) 1 8 rfl Tryz.underlying96 info95 rfl (by decide) (by decide) (.slice oa k oc) bls [.pointer (some ⟨wr.heap.size + 1, 0, none⟩)] (wr.heap.size + 1) ⟨wr.heap.size + 2, 0, none⟩ rfl rfl rfl ?c1 (news_at _ _ _ _ (by simp [World.setCell])) ?c3 rfl ?c5 ?c6 ?_))
          case c1 => first | rfl | (intro u hu; simp at hu; subst hu; rfl)
          case c3 => exact OwnRep.below EP.rep (((below_alloc wr _).alloc (Below.size (below_alloc wr _)) _).alloc (by simp; omega) _) HG.out.row
          case c5 => first | (have := HG.out.below.size; omega) | (have := HG.out.below.size; simp [World.setCell]; omega)
          case c6 => rw [HG.out.len]; omega
          · intro gg cap1 w1 hO hG hat hgl
            have hnext := Lib.hid (HG.out.next hlt HND.out ((HG.out.below.alloc HG.out.below.size _).alloc (by simp; have := HG.out.below.size; omega) _) _ hO hG (hat.imp id (fun h => by omega)))
            have e1 : bls.length + 1 = k + 1 := by rw [HG.out.len]
            rw [e1]
            clear hO hG hat
            go_wp2_with fail
            go_roundw
            case rel => exact ⟨k + 1, _, by omega, by go_num, hnext.out⟩
            case measure => simp [intOf]; omega
    · obtain rfl : k = l.length := by omega
      have hcells : ∀ i, i < l.length → ∃ b o, oa = some ⟨b, o, none⟩ ∧ wr.cell? ⟨b, o + i, none⟩ = some (.pointer (some ⟨blf bls i, 0, none⟩)) := fun i hi => by
        obtain ⟨b, o, cap', hve, hc⟩ := row_cell HG.out.row (i := i) (by rw [HG.out.len]; exact hi)
        simp only [Value.slice.injEq] at hve
        exact ⟨b, o, hve.1, by rw [blf_get (by rw [HG.out.len]; exact hi)]; exact hc⟩
      have HC := Lib.hid hcells
      clear hgr hcells
      go_wp2_with fail
      go_ret
      obtain ⟨b, o, rfl, _⟩ := HC.out 0 hpos
      refine ⟨b, o, oc, blf bls, rfl, ?_, ?_, HG.out.below⟩
      · have h1 := HG.out.nodes
        rw [List.take_length] at h1
        exact h1.tree (treeOf_wf HOK.out)
      · intro i hi
        obtain ⟨b', o', he, hc⟩ := HC.out i hi
        simp only [Option.some.injEq, Addr.mk.injEq] at he
        obtain ⟨rfl, rfl, _⟩ := he
        exact hc
end Go.Proofs.YteaapgijeehhfaaGreatDoor
