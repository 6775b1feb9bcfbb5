/- How lists of structured data lie in the heap: a slice that reads as a list; a row of the call's own that is appended to. -/
/- The data of the statements: selectors as trees, nodes; how they lie in the heap. -/
/- cascadia.matchAttribute, whatever the function that it is handed. -/
import Derived.Test.YteaapgijeehhfaaGreatDoorZ00
import Derived.Deep.AppendLies
namespace Go.Proofs.YteaapgijeehhfaaGreatDoor
open Go.RowKit

/-- The blocks of X hold in w' what they held in w. -/
def KeepX (X : Nat → Prop) (w w' : World) : Prop := ∀ k, k < w.heap.size → X k → w'.heap[k]? = w.heap[k]?

theorem KeepX.of_below {B : Nat} {w w' : World} (h : Below B w w') : KeepX (fun k => k < B) w w' := fun k _ hk => h.block k hk
theorem KeepX.of_all {X : Nat → Prop} {w w' : World} (h : Below w.heap.size w w') : KeepX X w w' := fun k hk _ => h.block k hk
theorem KeepX.refl (X : Nat → Prop) (w : World) : KeepX X w w := fun _ _ _ => rfl
theorem KeepX.weak {X Y : Nat → Prop} {w w' : World} (h : KeepX Y w w') (hX : ∀ k, k < w.heap.size → X k → Y k) : KeepX X w w' := fun k hk hx => h k hk (hX k hk hx)
theorem KeepX.cell {X : Nat → Prop} {w w' : World} (h : KeepX X w w') {b o : Nat} {v : Value} (hx : X b) (hc : w.cell? ⟨b, o, none⟩ = some v) : w'.cell? ⟨b, o, none⟩ = some v := by
  rw [World.cell?_of_block (w := w) (a := ⟨b, o, none⟩) (h b (lt_of_cell hc) hx)]; exact hc

/-- What is said of the cells of one element: it stands while the blocks that it goes through stand. -/
structure ElemRep {α : Type} (E : (Nat → Prop) → World → List Value → α → Prop) : Prop where
  keep : ∀ {X : Nat → Prop} {w w' : World} {cs : List Value} {x : α}, KeepX X w w' → E X w cs x → E X w' cs x
  lt : ∀ {X : Nat → Prop} {w : World} {cs : List Value} {x : α}, E X w cs x → E (fun k => X k ∧ k < w.heap.size) w cs x
  mono : ∀ {X Y : Nat → Prop} {w : World} {cs : List Value} {x : α}, (∀ k, X k → Y k) → E X w cs x → E Y w cs x

/-- The same of one value. -/
structure ValRep {α : Type} (R : (Nat → Prop) → World → Value → α → Prop) : Prop where
  keep : ∀ {X : Nat → Prop} {w w' : World} {v : Value} {x : α}, KeepX X w w' → R X w v x → R X w' v x
  lt : ∀ {X : Nat → Prop} {w : World} {v : Value} {x : α}, R X w v x → R (fun k => X k ∧ k < w.heap.size) w v x
  mono : ∀ {X Y : Nat → Prop} {w : World} {v : Value} {x : α}, (∀ k, X k → Y k) → R X w v x → R Y w v x

/-- A slice value that reads as a list: elements of 'sz' cells and 'by' bytes. -/
def SlX {α : Type} (sz bt : Nat) (E : (Nat → Prop) → World → List Value → α → Prop) (X : Nat → Prop) (w : World) (v : Value) (l : List α) : Prop :=
  (v = .slice none 0 0 ∧ l = []) ∨ ∃ b o cap, v = .slice (some ⟨b, o, none⟩) l.length cap ∧ l.length ≤ cap ∧ cap ≤ maxLen ∧ l.length * bt ≤ 140737488355328 ∧
    ∀ i (h : i < l.length), X b ∧ ∃ cs : List Value, cs.length = sz ∧ (∀ j u, cs[j]? = some u → w.cell? ⟨b, o + i * sz + j, none⟩ = some u) ∧ E X w cs l[i]

theorem SlX.rep {α : Type} {sz bt : Nat} {E : (Nat → Prop) → World → List Value → α → Prop} (hE : ElemRep E) (hsz : 0 < sz) : ValRep (SlX sz bt E) where
  keep := by
    intro X w w' v l hk h
    rcases h with h | ⟨b, o, cap, h1, h2, h3, h4, h5⟩
    · exact .inl h
    · refine .inr ⟨b, o, cap, h1, h2, h3, h4, fun i hi => ?_⟩
      obtain ⟨hX, cs, e1, e2, e3⟩ := h5 i hi
      exact ⟨hX, cs, e1, fun j u hj => hk.cell hX (e2 j u hj), hE.keep hk e3⟩
  lt := by
    intro X w v l h
    rcases h with h | ⟨b, o, cap, h1, h2, h3, h4, h5⟩
    · exact .inl h
    · refine .inr ⟨b, o, cap, h1, h2, h3, h4, fun i hi => ?_⟩
      obtain ⟨hX, cs, e1, e2, e3⟩ := h5 i hi
      refine ⟨⟨hX, ?_⟩, cs, e1, e2, hE.lt e3⟩
      exact lt_of_cell (e2 0 cs[0] (by simp))
  mono := by
    intro X Y w v l hXY h
    rcases h with h | ⟨b, o, cap, h1, h2, h3, h4, h5⟩
    · exact .inl h
    · refine .inr ⟨b, o, cap, h1, h2, h3, h4, fun i hi => ?_⟩
      obtain ⟨hX, cs, e1, e2, e3⟩ := h5 i hi
      exact ⟨hXY _ hX, cs, e1, e2, hE.mono hXY e3⟩

/-- A row of the call's own (blocks from B on) that has been appended to: its elements, told by E, go through blocks of the call's own that are not the row's. -/
def OwnRep {α : Type} (B : Nat) (e : TypeId) (sz bt : Nat) (E : (Nat → Prop) → World → List Value → α → Prop) (w : World) (v : Value) (l : List α) : Prop :=
  ∃ css : List (List Value), css.length = l.length ∧ (∀ cs ∈ css, cs.length = sz) ∧ w.ownsRow B e sz v l.length css.flatten ∧ l.length * bt ≤ 140737488355328 ∧
    ∀ j (h : j < l.length) (h' : j < css.length), E (fun k => B ≤ k ∧ k < w.heap.size ∧ some k ≠ v.ownBlock) w css[j] l[j]

theorem flatten_len {sz : Nat} : ∀ (css : List (List Value)), (∀ cs ∈ css, cs.length = sz) → css.flatten.length = css.length * sz
  | [], _ => by simp
  | c :: r, h => by
    rw [List.flatten_cons, List.length_append, flatten_len r (fun x hx => h x (List.mem_cons_of_mem _ hx)), h c (List.mem_cons_self ..), List.length_cons, Nat.add_mul]; omega

theorem flatten_at {sz : Nat} : ∀ (css : List (List Value)), (∀ cs ∈ css, cs.length = sz) → ∀ i j u (h : i < css.length), css[i][j]? = some u → css.flatten[i * sz + j]? = some u
  | [], _, i, j, u, h, _ => by simp at h
  | c :: r, hs, 0, j, u, h, hj => by
    rw [List.flatten_cons, List.getElem?_append_left]
    · simpa using hj
    · have : j < c.length := by
        have := (List.getElem?_eq_some_iff.1 hj).1; simpa using this
      omega
  | c :: r, hs, i + 1, j, u, h, hj => by
    have hc : c.length = sz := hs c (List.mem_cons_self ..)
    rw [List.flatten_cons, List.getElem?_append_right (by rw [hc, Nat.add_mul]; omega), hc]
    have e : (i + 1) * sz + j - sz = i * sz + j := by rw [Nat.add_mul]; omega
    rw [e]
    exact flatten_at r (fun x hx => hs x (List.mem_cons_of_mem _ hx)) i j u (by simpa using h) (by simpa using hj)

theorem OwnRep.nil {α : Type} (B : Nat) (e : TypeId) (sz bt : Nat) (E : (Nat → Prop) → World → List Value → α → Prop) (w : World) : OwnRep B e sz bt E w (.slice none 0 0) ([] : List α) :=
  ⟨[], rfl, by simp, ⟨by simp, .inl ⟨rfl, rfl⟩⟩, by simp, fun j h => by simp at h⟩

theorem World.ownsRow.block_lt {w : World} {B : Nat} {e : TypeId} {sz n : Nat} {v : Value} {xs : List Value} (h : w.ownsRow B e sz v n xs) : ∀ k, v.ownBlock = some k → k < w.heap.size := by
  rcases h.2 with ⟨rfl, _⟩ | ⟨g, cap, cur, rfl, _, h2, _⟩
  · intro k hk; cases hk
  · intro k hk
    simp [Value.ownBlock] at hk; subst hk
    by_cases hb : g < w.heap.size
    · exact hb
    · simp [Array.getElem?_eq_none (Nat.le_of_not_lt hb)] at h2

theorem World.ownsRow.block_ge {w : World} {B : Nat} {e : TypeId} {sz n : Nat} {v : Value} {xs : List Value} (h : w.ownsRow B e sz v n xs) : ∀ k, v.ownBlock = some k → B ≤ k := by
  rcases h.2 with ⟨rfl, _⟩ | ⟨g, cap, cur, rfl, h1, _⟩
  · intro k hk; cases hk
  · intro k hk
    simp [Value.ownBlock] at hk; subst hk; exact h1

/-- The row stands while all blocks of the call's own stand. -/
theorem OwnRep.keep {α : Type} {B : Nat} {e : TypeId} {sz bt : Nat} {E : (Nat → Prop) → World → List Value → α → Prop} (hE : ElemRep E) {w w' : World} {v : Value} {l : List α}
    (hk : KeepX (fun k => B ≤ k) w w') (hs : w.heap.size ≤ w'.heap.size) (h : OwnRep B e sz bt E w v l) : OwnRep B e sz bt E w' v l := by
  obtain ⟨css, h1, h2, h3, h4, h5⟩ := h
  refine ⟨css, h1, h2, ⟨h3.1, ?_⟩, h4, fun j hj hj' => ?_⟩
  · rcases h3.2 with h | ⟨g, cap, cur, a1, a2, a3, a4⟩
    · exact .inl h
    · have hg : g < w.heap.size := by
        by_cases hb : g < w.heap.size
        · exact hb
        · simp [Array.getElem?_eq_none (Nat.le_of_not_lt hb)] at a3
      exact .inr ⟨g, cap, cur, a1, a2, by rw [hk g hg a2]; exact a3, a4⟩
  · exact hE.mono (fun k hk => ⟨hk.1, Nat.lt_of_lt_of_le hk.2.1 hs, hk.2.2⟩) (hE.keep (hk.weak fun k _ hx => hx.1) (h5 j hj hj'))

/-- One element more, by the law of append: the row's block may have been written, or a new one made. -/
theorem OwnRep.push {α : Type} {B : Nat} {e : TypeId} {sz bt : Nat} {E : (Nat → Prop) → World → List Value → α → Prop} (hE : ElemRep E) {w w' : World} {v v' : Value} {l : List α} {cs : List Value} {x : α}
    {css : List (List Value)} (h1 : css.length = l.length) (h2 : ∀ cs ∈ css, cs.length = sz)
    (h5 : ∀ j (h : j < l.length) (h' : j < css.length), E (fun k => B ≤ k ∧ k < w.heap.size ∧ some k ≠ v.ownBlock) w css[j] l[j])
    (hcs : cs.length = sz) (hx : E (fun k => B ≤ k ∧ some k ≠ v.ownBlock) w cs x) (hlen : (l.length + 1) * bt ≤ 140737488355328)
    (hown : w'.ownsRow B e sz v' (l.length + 1) (css.flatten ++ cs)) (hg : w.grownBy w' v.ownBlock) (hnew : v'.ownBlock = v.ownBlock ∨ ∀ k, v'.ownBlock = some k → w.heap.size ≤ k) :
    OwnRep B e sz bt E w' v' (l ++ [x]) := by
  have hkeep : KeepX (fun k => B ≤ k ∧ k < w.heap.size ∧ some k ≠ v.ownBlock) w w' := fun k hk hx => hg.block k hk hx.2.2
  have hne : ∀ k, (B ≤ k ∧ k < w.heap.size ∧ some k ≠ v.ownBlock) → (B ≤ k ∧ k < w'.heap.size ∧ some k ≠ v'.ownBlock) := by
    intro k hk
    refine ⟨hk.1, Nat.lt_of_lt_of_le hk.2.1 hg.size, ?_⟩
    rcases hnew with e | hn
    · rw [e]; exact hk.2.2
    · intro e; have := hn k e.symm; omega
  refine ⟨css ++ [cs], by simp [h1], ?_, ?_, by simpa using hlen, ?_⟩
  · intro c hc
    rcases List.mem_append.1 hc with hc | hc
    · exact h2 c hc
    · rw [List.mem_singleton.1 hc]; exact hcs
  · simpa using hown
  · intro j hj hj'
    by_cases hjl : j < l.length
    · have hjc : j < css.length := by omega
      rw [List.getElem_append_left hjc, List.getElem_append_left hjl]
      exact hE.mono hne (hE.keep hkeep (h5 j hjl hjc))
    · have hjl' : j = l.length := by simp at hj; omega
      subst hjl'
      have e1 : (css ++ [cs])[l.length] = cs := by rw [List.getElem_append_right (by omega)]; simp [h1]
      have e2 : (l ++ [x])[l.length] = x := by rw [List.getElem_append_right (by omega)]; simp
      rw [e1, e2]
      have hx' := hE.lt hx
      exact hE.mono hne (hE.keep hkeep (hE.mono (fun k hk => ⟨hk.1.1, hk.2, hk.1.2⟩) hx'))

/-- What an own row is good for when it is handed back. -/
theorem OwnRep.slice {α : Type} {B : Nat} {e : TypeId} {sz bt : Nat} {E : (Nat → Prop) → World → List Value → α → Prop} (hE : ElemRep E) {w : World} {v : Value} {l : List α}
    (h : OwnRep B e sz bt E w v l) : SlX sz bt E (fun k => B ≤ k) w v l := by
  obtain ⟨css, h1, h2, h3, h4, h5⟩ := h
  rcases h3.2 with ⟨hv, hn⟩ | ⟨g, cap, cur, a1, a2, a3, a4, a5, a6, a7⟩
  · exact .inl ⟨hv, List.eq_nil_of_length_eq_zero hn⟩
  · refine .inr ⟨g, 0, cap, a1, a4, a5, h4, fun i hi => ⟨a2, css[i]'(by omega), h2 _ (List.getElem_mem _), fun j u hj => ?_, hE.mono (fun k hk => hk.1) (h5 i hi (by omega))⟩⟩
    have hf := flatten_at css h2 i j u (by omega) hj
    rw [← a7] at hf
    have hlt : i * sz + j < l.length * sz := by
      have := (List.getElem?_eq_some_iff.1 hf).1
      simp at this; omega
    rw [List.getElem?_take_of_lt hlt] at hf
    simp only [World.cell?, a3]
    simpa using hf

theorem news_alloc (W : World) (ys : List Value) (e : TypeId) : ∀ j u, ys[j]? = some u → (W.alloc (.cells ys.toArray e)).cell? ((⟨W.heap.size, 0, none⟩ : Addr).add j) = some u := by
  intro j u hj
  have hh := heap_alloc_new W (.cells ys.toArray e)
  by_cases h0 : j = 0
  · subst h0
    have e0 : (⟨W.heap.size, 0, none⟩ : Addr).add 0 = ⟨W.heap.size, 0, none⟩ := rfl
    rw [e0]
    show (match (W.alloc (.cells ys.toArray e)).heap[W.heap.size]? with | some (.cells c _ _) => _ | _ => none) = some u
    rw [hh]; simpa using hj
  · rw [Addr.add, if_neg h0]
    show (match (W.alloc (.cells ys.toArray e)).heap[W.heap.size]? with | some (.cells c _ _) => _ | _ => none) = some u
    rw [hh]; simpa using hj

section
variable {P : Program} {ops : Array Oper} {rest : List Oper} {o : Oper} {a : Act} {Q : Exit → Act → World → Prop}
/-- append(v, x): one element more on a row of the call's own; x lies in a box of its own at ad. -/
theorem wp_push {α : Type} {E : (Nat → Prop) → World → List Value → α → Prop} (hE : ElemRep E) {W : World} {K : Act → World → Prop} (B : Nat) (s x : Operand) (t e : TypeId) (z : Value) (size bytes : Nat)
    (ho : o.op = .call { callee := .builtin .append, args := #[s, x], argTypes := #[t, t] })
    (ht : P.underlying t = some (.slice e)) (hinfo : (P.info? e).map (fun i => (i.zero, i.size, i.bytes)) = some (some z, size, bytes)) (hz : z.cells.size = size) (hs0 : 0 < size) (hb0 : 0 < bytes)
    (v : Value) (l : List α) (ys : List Value) (el : α) (ad : Addr) (hs : a.eval s = v) (hx : a.eval x = .slice (some ad) 1 1) (hys : ys.length = size) (h1 : ∀ u ∈ ys, u.oneCell' = true)
    (hnews : ∀ j u, ys[j]? = some u → W.cell? (ad.add j) = some u)
    (HO : OwnRep B e size bytes E W v l) (hEl : E (fun k => B ≤ k ∧ some k ≠ v.ownBlock) W ys el) (hbase : B ≤ W.heap.size) (hl : (l.length + 1) * bytes ≤ 140737488355328)
    (h : ∀ gg cap w1, OwnRep B e size bytes E w1 (.slice (some ⟨gg, 0, none⟩) (l.length + 1) cap) (l ++ [el]) → W.grownBy w1 v.ownBlock → (v.ownBlock = some gg ∨ gg = W.heap.size) → gg < w1.heap.size →
      K (a.put o.dst (.slice (some ⟨gg, 0, none⟩) (l.length + 1) cap)) w1) :
    Oper.wp P o a W K Q := by
  obtain ⟨i0, hi, hzz⟩ := Option.map_eq_some_iff.1 hinfo
  simp only [Prod.mk.injEq] at hzz
  obtain ⟨hz0, hz1, hz2⟩ := hzz
  obtain ⟨css, c1, c2, c3, c4, c5⟩ := HO
  have hlen : l.length + 1 ≤ 140737488355328 := Nat.le_trans (Nat.le_mul_of_pos_right _ hb0) hl
  refine wp_append_lies W s x t ho B e i0 z size bytes ht hi hz0 hz1 hz2 hz hs0 v l.length css.flatten hs c3 ad 1 1 ys hx (by rw [hys]; simp)
    hnews h1 (by omega) (by simp only [maxLen]; omega) hl hbase W.heap.size rfl ?_
  intro gg cap w1 hown hg hat hlt
  refine h gg cap w1 (OwnRep.push hE c1 c2 c5 hys hEl hl hown hg ?_) hg hat hlt
  rcases hat with hat | hat
  · exact .inl hat.symm
  · exact .inr fun k hk => by simp [Value.ownBlock] at hk; omega

theorem wpList_push {α : Type} {E : (Nat → Prop) → World → List Value → α → Prop} (hE : ElemRep E) {W : World} (B : Nat) (hgd : o.guard = none) (s x : Operand) (t e : TypeId) (z : Value) (size bytes : Nat)
    (ho : o.op = .call { callee := .builtin .append, args := #[s, x], argTypes := #[t, t] })
    (ht : P.underlying t = some (.slice e)) (hinfo : (P.info? e).map (fun i => (i.zero, i.size, i.bytes)) = some (some z, size, bytes)) (hz : z.cells.size = size) (hs0 : 0 < size) (hb0 : 0 < bytes)
    (v : Value) (l : List α) (ys : List Value) (el : α) (ad : Addr) (hs : a.eval s = v) (hx : a.eval x = .slice (some ad) 1 1) (hys : ys.length = size) (h1 : ∀ u ∈ ys, u.oneCell' = true)
    (hnews : ∀ j u, ys[j]? = some u → W.cell? (ad.add j) = some u)
    (HO : OwnRep B e size bytes E W v l) (hEl : E (fun k => B ≤ k ∧ some k ≠ v.ownBlock) W ys el) (hbase : B ≤ W.heap.size) (hl : (l.length + 1) * bytes ≤ 140737488355328)
    (h : ∀ gg cap w1, OwnRep B e size bytes E w1 (.slice (some ⟨gg, 0, none⟩) (l.length + 1) cap) (l ++ [el]) → W.grownBy w1 v.ownBlock → (v.ownBlock = some gg ∨ gg = W.heap.size) → gg < w1.heap.size →
      wpList P ops Q rest (a.put o.dst (.slice (some ⟨gg, 0, none⟩) (l.length + 1) cap)) w1) :
    wpList P ops Q (o :: rest) a W :=
  wpList_plain hgd fun _ hK => wp_push hE B s x t e z size bytes ho ht hinfo hz hs0 hb0 v l ys el ad hs hx hys h1 hnews HO hEl hbase hl fun gg cap w1 h2 h3 h4 h5 => hK _ _ (h gg cap w1 h2 h3 h4 h5)

theorem step_push {α : Type} {E : (Nat → Prop) → World → List Value → α → Prop} (hE : ElemRep E) {W : World} {K : Act → World → Prop} {F : Prop} (B : Nat) (hgd : o.guard = none) (s x : Operand) (t e : TypeId) (z : Value) (size bytes : Nat)
    (ho : o.op = .call { callee := .builtin .append, args := #[s, x], argTypes := #[t, t] })
    (ht : P.underlying t = some (.slice e)) (hinfo : (P.info? e).map (fun i => (i.zero, i.size, i.bytes)) = some (some z, size, bytes)) (hz : z.cells.size = size) (hs0 : 0 < size) (hb0 : 0 < bytes)
    (v : Value) (l : List α) (ys : List Value) (el : α) (ad : Addr) (hs : a.eval s = v) (hx : a.eval x = .slice (some ad) 1 1) (hys : ys.length = size) (h1 : ∀ u ∈ ys, u.oneCell' = true)
    (hnews : ∀ j u, ys[j]? = some u → W.cell? (ad.add j) = some u)
    (HO : OwnRep B e size bytes E W v l) (hEl : E (fun k => B ≤ k ∧ some k ≠ v.ownBlock) W ys el) (hbase : B ≤ W.heap.size) (hl : (l.length + 1) * bytes ≤ 140737488355328)
    (h : ∀ gg cap w1, OwnRep B e size bytes E w1 (.slice (some ⟨gg, 0, none⟩) (l.length + 1) cap) (l ++ [el]) → W.grownBy w1 v.ownBlock → (v.ownBlock = some gg ∨ gg = W.heap.size) → gg < w1.heap.size →
      K (a.put o.dst (.slice (some ⟨gg, 0, none⟩) (l.length + 1) cap)) w1) :
    if Region.wanted o (yielded ops a.tmps) = true then Oper.wp P o a W K Q else F := by
  rw [if_pos (by simp [Region.wanted, hgd])]
  exact wp_push hE B s x t e z size bytes ho ht hinfo hz hs0 hb0 v l ys el ad hs hx hys h1 hnews HO hEl hbase hl h
end

/-- An empty row that has just been made. -/
theorem OwnRep.made0 {α : Type} {B : Nat} {e : TypeId} {sz bt : Nat} (E : (Nat → Prop) → World → List Value → α → Prop) {W : World} (hB : B ≤ W.heap.size) :
    OwnRep B e sz bt E (W.alloc (.cells #[] e)) (.slice (some ⟨W.heap.size, 0, none⟩) 0 0) ([] : List α) :=
  ⟨[], rfl, by simp, ⟨by simp, .inr ⟨W.heap.size, 0, #[], rfl, hB, heap_alloc_new W _, by simp, by simp, by simp, by simp⟩⟩, by simp, fun j h => by simp at h⟩

theorem OwnRep.val {α : Type} {B : Nat} {e : TypeId} {sz bt : Nat} {E : (Nat → Prop) → World → List Value → α → Prop} {W : World} {v : Value} {l : List α} (h : OwnRep B e sz bt E W v l) (n : Nat) (hn : l.length = n) :
    ∃ a cap, v = .slice a n cap := by
  obtain ⟨_, _, _, h3, _, _⟩ := h
  subst hn
  rcases h3.2 with ⟨rfl, h0⟩ | ⟨g, cap, cur, rfl, _⟩
  · exact ⟨none, 0, by rw [h0]⟩
  · exact ⟨_, _, rfl⟩
theorem OwnRep.block_lt {α : Type} {B : Nat} {e : TypeId} {sz bt : Nat} {E : (Nat → Prop) → World → List Value → α → Prop} {W : World} {v : Value} {l : List α} (h : OwnRep B e sz bt E W v l) : ∀ k, v.ownBlock = some k → B ≤ k ∧ k < W.heap.size := by
  obtain ⟨_, _, _, h3, _, _⟩ := h
  exact fun k hk => ⟨World.ownsRow.block_ge h3 k hk, World.ownsRow.block_lt h3 k hk⟩
theorem take_push {α : Type} {l : List α} {k : Nat} {x : α} (h : k < l.length) (hx : l[k] = x) : l.take k ++ [x] = l.take (k + 1) := by
  rw [List.take_succ_eq_append_getElem h, hx]
theorem take_len {α : Type} {l : List α} {k : Nat} (h : k ≤ l.length) : (l.take k).length = k := by simp; omega
theorem take_all {α : Type} {l : List α} {k : Nat} (h : ¬ k < l.length) : l.take k = l := List.take_of_length_le (by omega)
theorem below_grown {B : Nat} {w W w1 : World} {row : Option Nat} (h : Below B w W) (hg : W.grownBy w1 row) (hB : B ≤ W.heap.size) (hr : ∀ k, row = some k → B ≤ k) : Below B w w1 := h.grown hg hB hr

/-- The cells of a block that is known whole. -/
theorem cell_of_heap {w : World} {k : Nat} {cs : Array Value} {t : TypeId} {fz : Nat × Nat} (h : w.heap[k]? = some (.cells cs t fz)) (j : Nat) : w.cell? ⟨k, j, none⟩ = cs[j]? := by
  simp only [World.cell?, h]; simp
theorem free_of_heap {w : World} {k : Nat} {cs : Array Value} {t : TypeId} (h : w.heap[k]? = some (.cells cs t (0, 0))) (j : Nat) : w.frozen? ⟨k, j, none⟩ = false := by
  simp only [World.frozen?, h]; simp
theorem lt_of_heap {w : World} {k : Nat} {ob : Obj} (h : w.heap[k]? = some ob) : k < w.heap.size := by
  by_cases hb : k < w.heap.size
  · exact hb
  · simp [Array.getElem?_eq_none (Nat.le_of_not_lt hb)] at h
theorem heap_keep {w w' : World} {k : Nat} {ob : Obj} (hb : Below w.heap.size w w') (h : w.heap[k]? = some ob) : w'.heap[k]? = some ob := by rw [hb.block k (lt_of_heap h)]; exact h

/-- More blocks disturb no row. -/
theorem OwnRep.below {α : Type} {B : Nat} {e : TypeId} {sz bt : Nat} {E : (Nat → Prop) → World → List Value → α → Prop} (hE : ElemRep E) {w w' : World} {v : Value} {l : List α}
    (hb : Below w.heap.size w w') (h : OwnRep B e sz bt E w v l) : OwnRep B e sz bt E w' v l := h.keep hE (KeepX.of_all hb) hb.size

end Go.Proofs.YteaapgijeehhfaaGreatDoor

namespace Go.Proofs.YteaapgijeehhfaaGreatDoor
open Go.RowKit

/-- A simple selector, as the laws and the reference tell it. -/
inductive Simple : Type where
  | mk (kind : Int) (name value : ByteArray) (fold : Bool) (a b : Int) (last ofType : Bool) (subs : List (List (ByteArray × List Simple)))

abbrev Compound : Type := ByteArray × List Simple
abbrev Complex : Type := List Compound
abbrev Group : Type := List Complex

namespace Simple
def kind : Simple → Int | mk k _ _ _ _ _ _ _ _ => k
def name : Simple → ByteArray | mk _ n _ _ _ _ _ _ _ => n
def value : Simple → ByteArray | mk _ _ v _ _ _ _ _ _ => v
def fold : Simple → Bool | mk _ _ _ f _ _ _ _ _ => f
def a : Simple → Int | mk _ _ _ _ a _ _ _ _ => a
def b : Simple → Int | mk _ _ _ _ _ b _ _ _ => b
def last : Simple → Bool | mk _ _ _ _ _ _ l _ _ => l
def ofType : Simple → Bool | mk _ _ _ _ _ _ _ o _ => o
def subs : Simple → Group | mk _ _ _ _ _ _ _ _ s => s
end Simple

/-- A node of a tree. -/
structure Nd where
  parent : Int
  kind : Int
  data : ByteArray
  attrs : List (ByteArray × ByteArray)

/-- The cells of a simple selector whose selectors within are the slice v. -/
def smCells (s : Simple) (v : Value) : List Value :=
  [.int .i64 s.kind, .string s.name, .string s.value, .bool s.fold, .int .i64 s.a, .int .i64 s.b, .bool s.last, .bool s.ofType, v]

def i64ok (n : Int) : Prop := -9223372036854775808 ≤ n ∧ n ≤ 9223372036854775807

abbrev GRep : Type := (Nat → Prop) → World → Value → Group → Prop

def ESm (R : GRep) (X : Nat → Prop) (w : World) (cs : List Value) (s : Simple) : Prop :=
  ∃ v, cs = smCells s v ∧ s.name.size ≤ 140737488351232 ∧ s.value.size ≤ 140737488351232 ∧ i64ok s.kind ∧ i64ok s.a ∧ i64ok s.b ∧ R X w v s.subs
def ECp (R : GRep) (X : Nat → Prop) (w : World) (cs : List Value) (p : Compound) : Prop :=
  ∃ v, cs = [.string p.1, v] ∧ p.1.size ≤ 140737488351232 ∧ SlX 9 96 (ESm R) X w v p.2
def ECx (R : GRep) (X : Nat → Prop) (w : World) (cs : List Value) (c : Complex) : Prop :=
  ∃ v, cs = [v] ∧ SlX 2 40 (ECp R) X w v c
/-- A group of selectors in the heap, at most d deep. -/
def RG : Nat → GRep
  | 0 => fun _ _ _ _ => False
  | d + 1 => SlX 1 24 (ECx (RG d))

theorem ESm.rep {R : GRep} (hR : ValRep R) : ElemRep (ESm R) where
  keep := fun hk ⟨v, h1, h2, h3, h4, h5, h6, h7⟩ => ⟨v, h1, h2, h3, h4, h5, h6, hR.keep hk h7⟩
  lt := fun ⟨v, h1, h2, h3, h4, h5, h6, h7⟩ => ⟨v, h1, h2, h3, h4, h5, h6, hR.lt h7⟩
  mono := fun hX ⟨v, h1, h2, h3, h4, h5, h6, h7⟩ => ⟨v, h1, h2, h3, h4, h5, h6, hR.mono hX h7⟩
theorem ECp.rep {R : GRep} (hR : ValRep R) : ElemRep (ECp R) :=
  have hS := SlX.rep (sz := 9) (bt := 96) (ESm.rep hR) (by omega)
  { keep := fun hk ⟨v, h1, h2, h3⟩ => ⟨v, h1, h2, hS.keep hk h3⟩
    lt := fun ⟨v, h1, h2, h3⟩ => ⟨v, h1, h2, hS.lt h3⟩
    mono := fun hX ⟨v, h1, h2, h3⟩ => ⟨v, h1, h2, hS.mono hX h3⟩ }
theorem ECx.rep {R : GRep} (hR : ValRep R) : ElemRep (ECx R) :=
  have hS := SlX.rep (sz := 2) (bt := 40) (ECp.rep hR) (by omega)
  { keep := fun hk ⟨v, h1, h2⟩ => ⟨v, h1, hS.keep hk h2⟩
    lt := fun ⟨v, h1, h2⟩ => ⟨v, h1, hS.lt h2⟩
    mono := fun hX ⟨v, h1, h2⟩ => ⟨v, h1, hS.mono hX h2⟩ }
theorem RG.rep : ∀ d, ValRep (RG d)
  | 0 => ⟨fun _ h => h.elim, fun h => h.elim, fun _ h => h.elim⟩
  | d + 1 => SlX.rep (ECx.rep (RG.rep d)) (by omega)

def EAt (_ : Nat → Prop) (_ : World) (cs : List Value) (a : ByteArray × ByteArray) : Prop :=
  cs = [.string a.1, .string a.2] ∧ a.1.size ≤ 140737488351232 ∧ a.2.size ≤ 140737488351232
theorem EAt.rep : ElemRep EAt := ⟨fun _ h => h, fun h => h, fun _ h => h⟩
/-- A node; the number of its kind is of the kind of number k (int; uint32 in the package's own list). -/
def ENd (k : IntKind) (X : Nat → Prop) (w : World) (cs : List Value) (n : Nd) : Prop :=
  ∃ v, cs = [.int .i64 n.parent, .int k n.kind, .string n.data, v] ∧ n.data.size ≤ 140737488351232 ∧ i64ok n.parent ∧ i64ok n.kind ∧ SlX 2 32 EAt X w v n.attrs
theorem ENd.rep (k : IntKind) : ElemRep (ENd k) :=
  have hS := SlX.rep (sz := 2) (bt := 32) EAt.rep (by omega)
  { keep := fun hk ⟨v, h1, h2, h3, h4, h5⟩ => ⟨v, h1, h2, h3, h4, hS.keep hk h5⟩
    lt := fun ⟨v, h1, h2, h3, h4, h5⟩ => ⟨v, h1, h2, h3, h4, hS.lt h5⟩
    mono := fun hX ⟨v, h1, h2, h3, h4, h5⟩ => ⟨v, h1, h2, h3, h4, hS.mono hX h5⟩ }
/-- A tree in the heap. -/
def RT (X : Nat → Prop) (w : World) (v : Value) (t : List Nd) : Prop := SlX 4 56 (ENd .i64) X w v t
theorem RT.rep : ValRep RT := SlX.rep (ENd.rep .i64) (by omega)

/-! ### What the walks read off -/

theorem SlX.len {α : Type} {sz bt : Nat} {E : (Nat → Prop) → World → List Value → α → Prop} {X : Nat → Prop} {w : World} {v : Value} {l : List α} (h : SlX sz bt E X w v l) (hb : 0 < bt) :
    ∃ a cap, v = .slice a l.length cap ∧ l.length ≤ 140737488355328 := by
  rcases h with ⟨rfl, rfl⟩ | ⟨b, o, cap, rfl, h2, h3, h4, h5⟩
  · exact ⟨none, 0, rfl, by simp⟩
  · exact ⟨_, _, rfl, Nat.le_trans (Nat.le_mul_of_pos_right _ hb) h4⟩

/-- One view for every slice: its address is known where it has an element. -/
theorem SlX.view {α : Type} {sz bt : Nat} {E : (Nat → Prop) → World → List Value → α → Prop} {X : Nat → Prop} {w : World} {v : Value} {l : List α} (h : SlX sz bt E X w v l) (hb : 0 < bt) :
    (l = [] ∧ ∃ a cap, v = .slice a 0 cap) ∨ ∃ b o cap, v = .slice (some ⟨b, o, none⟩) l.length cap ∧ X b ∧ l.length ≤ 140737488355328 ∧ l.length * bt ≤ 140737488355328 ∧ 0 < l.length ∧
      ∀ i (h : i < l.length), ∃ cs : List Value, cs.length = sz ∧ (∀ j u, cs[j]? = some u → w.cell? ⟨b, o + i * sz + j, none⟩ = some u) ∧ E X w cs l[i] := by
  rcases h with ⟨rfl, rfl⟩ | ⟨b, o, cap, rfl, h2, h3, h4, h5⟩
  · exact .inl ⟨rfl, none, 0, rfl⟩
  · by_cases h0 : l.length = 0
    · have e := List.eq_nil_of_length_eq_zero h0
      exact .inl ⟨e, _, _, by rw [h0]⟩
    · exact .inr ⟨b, o, cap, rfl, (h5 0 (by omega)).1, Nat.le_trans (Nat.le_mul_of_pos_right _ hb) h4, h4, by omega, fun i hi => (h5 i hi).2⟩

theorem sm_el {d : Nat} {q : Simple} {W1 W2 : World} {B H : Nat} {v u : Value} (h1 : q.name.size ≤ 140737488351232) (h2 : q.value.size ≤ 140737488351232) (h3 : i64ok q.kind) (h4 : i64ok q.a) (h5 : i64ok q.b)
    (hR : RG d (fun k => H ≤ k) W1 u q.subs) (hb : Below W1.heap.size W1 W2) (hB : B ≤ H) (hv : ∀ k, v.ownBlock = some k → k < H) :
    ESm (RG d) (fun k => B ≤ k ∧ some k ≠ v.ownBlock) W2 (smCells q u) q :=
  ⟨u, rfl, h1, h2, h3, h4, h5, (RG.rep d).mono (fun k hk => ⟨by omega, fun e => by have := hv k e.symm; omega⟩) ((RG.rep d).keep (KeepX.of_all hb) hR)⟩
theorem grown_cell {W w1 : World} {row : Option Nat} (hG : W.grownBy w1 row) {b o : Nat} {u : Value} (hne : row ≠ some b) (h : W.cell? ⟨b, o, none⟩ = some u) : w1.cell? ⟨b, o, none⟩ = some u := by
  rw [World.cell?_of_block (w := W) (a := ⟨b, o, none⟩) (hG.block b (lt_of_cell h) (fun e => hne e.symm))]; exact h

theorem grown_free {W w1 : World} {row : Option Nat} (hG : W.grownBy w1 row) {b o : Nat} (hne : row ≠ some b) (hlt : b < W.heap.size) (h : W.frozen? ⟨b, o, none⟩ = false) : w1.frozen? ⟨b, o, none⟩ = false := by
  rw [World.frozen?_of_block (w := W) (a := ⟨b, o, none⟩) (hG.block b hlt (fun e => hne e.symm))]; exact h
theorem below_free {B : Nat} {w w1 : World} (hb : Below B w w1) {b o : Nat} (hlt : b < B) (h : w.frozen? ⟨b, o, none⟩ = false) : w1.frozen? ⟨b, o, none⟩ = false := by
  rw [hb.frozen hlt]; exact h

theorem cell_set_other {w : World} {b b' o o' : Nat} {u x : Value} (hne : b ≠ b') (h : w.cell? ⟨b, o, none⟩ = some x) : (w.setCell ⟨b', o', none⟩ u).cell? ⟨b, o, none⟩ = some x := by
  rw [World.cell?_of_block (w := w) (a := ⟨b, o, none⟩) (Below.heap_setCell _ _ _ _ hne)]; exact h

theorem RG.val : ∀ {d : Nat} {X : Nat → Prop} {w : World} {v : Value} {g : Group}, RG d X w v g → ∃ a cap, v = .slice a g.length cap
  | 0, _, _, _, _, h => h.elim
  | _ + 1, _, _, _, _, h => by obtain ⟨a, cap, h, _⟩ := SlX.len h (by omega); exact ⟨a, cap, h⟩

end Go.Proofs.YteaapgijeehhfaaGreatDoor

namespace Go.Proofs.YteaapgijeehhfaaGreatDoor
open Go.RowKit

/-- A text of ASCII, not too long. -/
def asc (s : ByteArray) : Prop := (∀ c ∈ L s, c.toNat < 128) ∧ s.size ≤ 2147483647

/-- A function value with what it captured computes a predicate on texts, in every world that keeps what w held. -/
structure FunRep (w : World) (F : FuncId) (caps : Array Value) (p : ByteArray → Bool) : Prop where
  enters : ∀ (args : Array Value) (w' : World), (callFunc F args).run Tryz.prog w' = .ok (.enter F args) w'
  calls : ∀ (s : ByteArray) (w' : World), asc s → Below w.heap.size w w' → Calls Tryz.prog F (#[.string s] ++ caps) w' fun e w'' => e = .returned (.bool (p s)) ∧ Below w'.heap.size w' w''

def attrAny (al : List (ByteArray × ByteArray)) (key : ByteArray) (p : ByteArray → Bool) : Bool := al.any fun a => a.1.toList == key.toList && p a.2

set_option maxRecDepth 100000 in
set_option maxHeartbeats 2000000 in
theorem matchAttribute_any (X : Nat → Prop) (w : World) (b : Nat) (kind : Int) (v : Value) (al : List (ByteArray × ByteArray)) (F : FuncId) (caps : Array Value) (key : ByteArray) (p : ByteArray → Bool)
    (hk : w.cell? ⟨b, 5, none⟩ = some (.int .u32 kind)) (ha : w.cell? ⟨b, 7, none⟩ = some v) (hv : SlX 2 32 EAt X w v al) (hal : ∀ a ∈ al, asc a.2) (hF : FunRep w F caps p) :
    Calls Tryz.prog 179 #[.pointer (some ⟨b, 0, none⟩), .string key, .func (.func F) #[] caps] w
      fun e w' => e = .returned (.bool (decide (kind = 3) && attrAny al key p)) ∧ Below w.heap.size w w' := by
  have HV := Lib.hid (SlX.view hv (by omega))
  obtain ⟨a, cap, rfl, hl⟩ := SlX.len hv (by omega)
  clear hv
  have hen := hF.enters
  have HF := Lib.hid hF.calls
  have HAL := Lib.hid hal
  clear hal
  by_cases h3 : kind = 3
  · subst h3
    go_enter Tryz.func179, Tryz.ntmps179
    go_wp2_with fail
    go_loopw [19] (fun i wr => ∃ k : Nat, k ≤ al.length ∧ i = .int .i64 k ∧ (al.take k).any (fun a => a.1.toList == key.toList && p a.2) = false ∧ Below w.heap.size w wr) (fun i _ => al.length - (intOf i).toNat)
    case atStart => exact ⟨0, Nat.zero_le _, rfl, rfl, Below.refl _ _⟩
    case round =>
      obtain ⟨k, hkl, rfl, hany, hb⟩ := hrel
      have HA := Lib.hid hany
      clear hany
      by_cases hlt : k < al.length
      · rcases HV.out with ⟨rfl, _⟩ | ⟨b1, o1, cap1, hve, hX, _, hcb, hpos, hc⟩
        · simp at hlt
        · simp only [Value.slice.injEq, true_and] at hve
          obtain ⟨rfl, rfl⟩ := hve
          obtain ⟨cs, hcs1, hcs2, hcs3, hz1, hz2⟩ := hc k hlt
          subst hcs3
          have f0 := cell_keep hb (by simpa using hcs2 0 _ rfl)
          have f1 := cell_keep hb (by simpa using hcs2 1 _ rfl)
          clear hcs1 hcs2 hc
          have hbs := hb.size
          have hb2 := hb.alloc hbs (.cells #[.string al[k].1, .string al[k].2] 103)
          have hcal := HF.out al[k].2 _ (HAL.out _ (List.getElem_mem hlt)) hb2
          by_cases hkey : (al[k].1.toList == key.toList) = true
          · obtain ⟨r, hr⟩ : ∃ r, p al[k].2 = r := ⟨_, rfl⟩
            rw [hr] at hcal
            have HC := Lib.hid hcal
            have HR := Lib.hid hr
            clear hcal hr
            cases r
            · go_wp2_with fail
              refine HC.out.mono ?_
              rintro e w' ⟨rfl, hb3⟩
              have hb4 := hb2.trans (hb3.mono hb2.size)
              go_wp2_with fail
              go_roundw
              case rel => exact ⟨k + 1, by omega, by go_num, any_take_succ hlt HA.out (by simp [HR.out]), hb4⟩
              case measure => simp [intOf]; omega
            · go_wp2_with fail
              refine HC.out.mono ?_
              rintro e w' ⟨rfl, hb3⟩
              have hb4 := hb2.trans (hb3.mono hb2.size)
              go_wp2_with fail
              go_ret
              exact ⟨ret_bool (by rw [attrAny, any_hit hlt (by simp [HR.out, hkey])]; rfl), hb4⟩
          · have hkey' : (al[k].1.toList == key.toList) = false := by simpa using hkey
            clear hkey hcal
            go_wp2_with fail
            go_roundw
            case rel => exact ⟨k + 1, by omega, by go_num, any_take_succ hlt HA.out (by simp [hkey']), hb2⟩
            case measure => simp [intOf]; omega
      · go_wp2_with fail
        go_ret
        exact ⟨ret_bool (by rw [attrAny, any_end hlt HA.out]; rfl), hb⟩
  · have h3' : (kind != 3) = true := by simpa using h3
    go_enter Tryz.func179, Tryz.ntmps179
    go_wp2_with fail
    go_ret
    exact ⟨ret_bool (by simp [h3]), Below.refl _ _⟩

end Go.Proofs.YteaapgijeehhfaaGreatDoor
