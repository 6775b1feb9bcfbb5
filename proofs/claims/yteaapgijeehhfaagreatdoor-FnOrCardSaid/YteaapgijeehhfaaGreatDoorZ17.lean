/- The parser reads a whole text. -/
/- A tree of nodes in the heap; what a selector's value answers. -/
/- The joins of compounds: descendant, child, sibling. -/
import Derived.Test.YteaapgijeehhfaaGreatDoorZ16
import Derived.Test.YteaapgijeehhfaaGreatDoorZ01
import Derived.Test.YteaapgijeehhfaaGreatDoorZ13
import Derived.Deep.QuietTactic
import Derived.BigQuiet
import Derived.WalkSpells
import Derived.WalkLawsBesides
import Derived.Deep.LoopGhost
namespace Go.Proofs.YteaapgijeehhfaaGreatDoor
open Go.RowKit

theorem wItems_gr (wg : Group → List UInt8) (c0 : Complex) (l : Group) : wGr wg (c0 :: l) = wItems wg c0 (l.map fun c => ([32], c)) := by
  unfold wItems wGr
  rw [List.flatMap_map]
  rfl
theorem cx_head {wg : Group → List UInt8} {og : Group → Prop} {c : Complex} (hok : okCx og c) (r : List UInt8) : ∃ a u, wCx wg c ++ r = a :: u ∧ plainC a := by
  obtain ⟨p0, rest, rfl⟩ : ∃ p0 rest, c = p0 :: rest := by
    cases c with
    | nil => exact absurd hok.len.1 (by simp)
    | cons q l => exact ⟨q, l, rfl⟩
  have e : wCx wg (p0 :: rest) = wParts wg p0.2 ++ rest.flatMap (wMore wg) := rfl
  rw [e, List.append_assoc]
  exact parts_head (hok.each 0 (by simp)).1 _
theorem items_head {wg : Group → List UInt8} {og : Group → Prop} {c : Complex} (hok : okCx og c) (l : List (List UInt8 × Complex)) (r : List UInt8) : ∃ a u, wItems wg c l ++ r = a :: u ∧ plainC a := by
  unfold wItems; rw [List.append_assoc]; exact cx_head hok _
theorem okGr_cons {og : Group → Prop} {g : Group} (h : okGr og g) : ∃ c0 l, g = c0 :: l ∧ okCx og c0 ∧ (∀ c ∈ l, okCx og c) ∧ l.length ≤ 2 := by
  cases g with
  | nil => exact absurd h.len.1 (by simp)
  | cons c l =>
    refine ⟨c, l, rfl, h.each 0 (by simp), ?_, by have := h.len.2; simp at this; omega⟩
    intro x hx
    obtain ⟨k, hk, rfl⟩ := List.getElem_of_mem hx
    exact h.each (k + 1) (by simp; omega)
theorem wG_head : ∀ (D : Nat) (g : Group) (r : List UInt8), okG D g → ∃ a u, wG D g ++ r = a :: u ∧ plainC a
  | 0, _, _, h => h.elim
  | D + 1, g, r, h => by
    obtain ⟨c0, l, rfl, h0, _⟩ := okGr_cons h
    have e : wG (D + 1) (c0 :: l) = wItems (wG D) c0 (l.map fun c => ([32], c)) := wItems_gr _ _ _
    rw [e]; exact items_head h0 _ _
theorem wG_noSkip (D : Nat) (g : Group) (h : okG D g) (r : List UInt8) : noSkip (wG D g ++ (41 :: r)) := by
  obtain ⟨a, u, e, hp⟩ := wG_head D g (41 :: r) h
  exact ⟨a, u, e, plain_ns hp⟩

theorem parseG_any : ∀ (D : Nat) (g : Group), okG D g → ∀ (w : World) (bp : Nat) (s : ByteArray) (i d : Nat) (r : List UInt8), PS w bp s i d → At s i (wG D g ++ r) → s.size ≤ 140737488351232 → d + D ≤ 1001 → headP (fun c => c.toNat = 41) r →
    Calls Tryz.prog 52 #[.pointer (some ⟨bp, 0, none⟩)] w (GPost D g w bp s (i + (wG D g).length) d)
  | 0, _, h => h.elim
  | D + 1, g, h => by
    intro w bp s i d r hp ha hs hd hr
    obtain ⟨c0, l, rfl, h0, hl, hll⟩ := okGr_cons h
    have e : wG (D + 1) (c0 :: l) = wItems (wG D) c0 (l.map fun c => ([32], c)) := wItems_gr _ _ _
    rw [e] at ha ⊢
    have em : (l.map fun c => (([32] : List UInt8), c)).map Prod.snd = l := by rw [List.map_map]; exact List.map_id l
    have := parseItems_any D (wG D) w bp s i d c0 (l.map fun c => ([32], c)) r hp ha hs (by omega) h0
      (by
        intro it hit
        obtain ⟨c, hc, rfl⟩ := List.mem_map.1 hit
        exact ⟨.inr rfl, hl c hc⟩)
      (by simp; omega) hr (wG_noSkip D)
      (fun g hg W j r hW hA => parseG_any D g hg W bp s j (d + 1) (41 :: r) hW hA hs (by omega) (headP_cons rfl))
    rw [em] at this
    exact this

/-- What parsing a text leaves. -/
def TopPost (D : Nat) (g : Group) (w : World) (e : Ending) (w' : World) : Prop :=
  ∃ v, e = .returned (.tuple #[v, .nilIface]) ∧ RS D (fun k => w.heap.size ≤ k) w' v g ∧ Below w.heap.size w w'

set_option maxRecDepth 100000 in
set_option maxHeartbeats 4000000 in
theorem parseTop_any (D : Nat) (hD : D ≤ 100) (w : World) (c0 : Complex) (l : List (List UInt8 × Complex)) (s : ByteArray) (hse : L s = wItems (wG D) c0 l) (hs : s.size ≤ 140737488351232)
    (h0 : okCx (okG D) c0) (hl : ∀ it ∈ l, (it.1 = [] ∨ it.1 = [32]) ∧ okCx (okG D) it.2) (hll : l.length ≤ 100) :
    Calls Tryz.prog 37 #[.string s] w (TopPost (D + 1) (c0 :: l.map Prod.snd) w) := by
  have hat : At s 0 (wItems (wG D) c0 l ++ []) := ⟨Nat.zero_le _, by rw [List.drop_zero, List.append_nil]; exact hse⟩
  have hsz : (wItems (wG D) c0 l).length = s.size := by rw [← hse, L_len]
  have HAT := Lib.hid hat
  have HSZ := Lib.hid hsz
  have H0 := Lib.hid h0
  have HL := Lib.hid hl
  have HLL := Lib.hid hll
  have hps : PS (w.alloc (.cells #[.string s, .int .i64 0, .int .i64 0, .bool false] 115)) w.heap.size s 0 0 := heap_alloc_new w _
  have HPS := Lib.hid hps
  have HLN := Lib.hid (show (c0 :: l.map Prod.snd).length = l.length + 1 by simp)
  clear hat hsz h0 hl hll hse hps
  go_enter Tryz.func37, Tryz.ntmps37
  go_wp2_with (go_at_call 52; refine (parseItems_any D (wG D) _ w.heap.size s 0 0 c0 l [] (by exact HPS.out) HAT.out hs (by omega) H0.out HL.out HLL.out (fun c hc => by simp at hc) (wG_noSkip D) (fun g hg W j r hW hA => parseG_any D g hg W _ s j _ (41 :: r) hW hA hs (by omega) (headP_cons rfl))).mono ?_; rintro e w' ⟨v, rfl, hv, hp2, hm2⟩; obtain ⟨va, vc, rfl⟩ := hv.val; rw [Nat.zero_add, HSZ.out] at hp2; have hc1 := hp2.c1; have HV := Lib.hid hv; have HM := Lib.hid hm2; clear hv hp2 hm2)
  go_ret2
  have hv := HV.out
  rw [HLN.out] at hv
  exact ⟨_, rfl, (RS.rep (D + 1)).mono (fun k (hk : (w.alloc (.cells #[.string s, .int .i64 0, .int .i64 0, .bool false] 115)).heap.size ≤ k) => Nat.le_trans (by simp) hk) hv, ((Below.refl _ w).alloc (Nat.le_refl _) _).trans (HM.out.below (Nat.le_refl _) (by simp))⟩

end Go.Proofs.YteaapgijeehhfaaGreatDoor

namespace Go.Proofs.YteaapgijeehhfaaGreatDoor
open Go.RowKit

/-- A node with its links. -/
structure Nk where
  parent : Option Nat
  first : Option Nat
  last : Option Nat
  prev : Option Nat
  next : Option Nat
  kind : Int
  data : ByteArray
  attrs : List (ByteArray × ByteArray)

/-- The pointer to node o. -/
def ptr (bl : Nat → Nat) (o : Option Nat) : Value := .pointer (o.map fun i => ⟨bl i, 0, none⟩)
/-- The cells of a node. -/
def nodeCells (bl : Nat → Nat) (n : Nk) (av : Value) : Array Value :=
  #[ptr bl n.parent, ptr bl n.first, ptr bl n.last, ptr bl n.prev, ptr bl n.next, .int .u32 n.kind, .string n.data, av]

/-- The links of a tree go where they should. -/
structure WF (t : List Nk) : Prop where
  parent : ∀ i (h : i < t.length) p, t[i].parent = some p → p < i
  first : ∀ i (h : i < t.length) p, t[i].first = some p → i < p ∧ p < t.length
  last : ∀ i (h : i < t.length) p, t[i].last = some p → i < p ∧ p < t.length
  prev : ∀ i (h : i < t.length) p, t[i].prev = some p → p < i
  next : ∀ i (h : i < t.length) p, t[i].next = some p → i < p ∧ p < t.length
  kind : ∀ i (h : i < t.length), 0 ≤ t[i].kind ∧ t[i].kind ≤ 4
  data : ∀ i (h : i < t.length), 0 < i → asc t[i].data
  attrs : ∀ i (h : i < t.length), ∀ a ∈ t[i].attrs, asc a.2

/-- A tree in the heap: node i is block bl i. -/
structure TreeAt (w : World) (bl : Nat → Nat) (t : List Nk) : Prop where
  wf : WF t
  inj : ∀ i j, i < t.length → j < t.length → bl i = bl j → i = j
  node : ∀ i (h : i < t.length), ∃ av, w.heap[bl i]? = some (.cells (nodeCells bl t[i] av) 121 (0, 0)) ∧ SlX 2 32 EAt (fun _ => True) w av t[i].attrs

theorem KeepX.of_full {w w' : World} (h : Below w.heap.size w w') : KeepX (fun _ => True) w w' := fun k hk _ => h.block k hk

theorem TreeAt.keep {w w' : World} {bl : Nat → Nat} {t : List Nk} (h : TreeAt w bl t) (hb : Below w.heap.size w w') : TreeAt w' bl t := by
  refine ⟨h.wf, h.inj, fun i hi => ?_⟩
  obtain ⟨av, h1, h2⟩ := h.node i hi
  exact ⟨av, heap_keep hb h1, (SlX.rep EAt.rep (by omega)).keep (KeepX.of_full hb) h2⟩

/-- What a selector's value answers at each node, in every world that keeps what w held. -/
def SelRep (n : Nat) (bl : Nat → Nat) (w : World) (v : Value) (m : Nat → Bool) : Prop :=
  ∃ T x F, v = .iface T x ∧ (∀ w', (method 421 T x "Match").run Tryz.prog w' = .ok (F, x) w') ∧ (∀ w', (nilAhead 421 T x "Match").run Tryz.prog w' = .ok (some false) w') ∧ (∀ (args : Array Value) w', (callFunc F args).run Tryz.prog w' = .ok (.enter F args) w') ∧
    ∀ i w', i < n → Below w.heap.size w w' → Calls Tryz.prog F #[x, .pointer (some ⟨bl i, 0, none⟩)] w' fun e w'' => e = .returned (.bool (m i)) ∧ Below w'.heap.size w' w''

theorem SelRep.keep {n : Nat} {bl : Nat → Nat} {w w' : World} {v : Value} {m : Nat → Bool} (h : SelRep n bl w v m) (hb : Below w.heap.size w w') : SelRep n bl w' v m := by
  obtain ⟨T, x, F, h1, h2, h5, h4, h3⟩ := h
  exact ⟨T, x, F, h1, h2, h5, h4, fun i w'' hi hb' => h3 i w'' hi (hb.trans (hb'.mono hb.size))⟩

/-- A slice of selectors. -/
def SelsRep (n : Nat) (bl : Nat → Nat) (w : World) (v : Value) (ms : List (Nat → Bool)) : Prop :=
  ∃ a cap, v = .slice a ms.length cap ∧ ms.length ≤ 140737488355328 ∧ ∀ k (h : k < ms.length), ∃ b o, a = some ⟨b, o, none⟩ ∧ ∃ u, w.cell? ⟨b, o + k, none⟩ = some u ∧ SelRep n bl w u ms[k]

set_option maxRecDepth 100000 in
set_option maxHeartbeats 4000000 in
/-- SelectorGroup.Match. -/
theorem groupMatch_any (n : Nat) (bl : Nat → Nat) (w : World) (v : Value) (ms : List (Nat → Bool)) (i : Nat) (hi : i < n) (hv : SelsRep n bl w v ms) :
    Calls Tryz.prog 38 #[v, .pointer (some ⟨bl i, 0, none⟩)] w fun e w' => e = .returned (.bool (ms.any fun m => m i)) ∧ Below w.heap.size w w' := by
  obtain ⟨a, cap, rfl, hlen, hk⟩ := hv
  have HK := Lib.hid hk
  clear hk
  go_enter Tryz.func38, Tryz.ntmps38
  go_wp2_with fail
  go_loopw [9] (fun j wr => ∃ k : Nat, k ≤ ms.length ∧ j = .int .i64 k ∧ (ms.take k).any (fun m => m i) = false ∧ Below w.heap.size w wr) (fun j _ => ms.length - (intOf j).toNat)
  case atStart => exact ⟨0, Nat.zero_le _, rfl, rfl, Below.refl _ _⟩
  case round =>
    obtain ⟨k, hkl, rfl, hany, hb⟩ := hrel
    have HA := Lib.hid hany
    clear hany
    by_cases hlt : k < ms.length
    · obtain ⟨b, o, rfl, u, hc, T, x, F, rfl, hm, _, hen, hcal⟩ := HK.out k hlt
      have h0 := cell_keep hb hc
      have HC := Lib.hid (hcal i wr hi hb)
      clear hcal hc
      obtain ⟨r, hr⟩ : ∃ r, ms[k] i = r := ⟨_, rfl⟩
      rw [hr] at HC
      have HR := Lib.hid hr
      clear hr
      cases r
      · go_wp2_with fail
        refine HC.out.mono ?_
        rintro e w' ⟨rfl, hb3⟩
        have hb4 := hb.trans (hb3.mono hb.size)
        go_wp2_with fail
        go_roundw
        case rel => exact ⟨k + 1, by omega, by go_num, any_take_succ hlt HA.out (by simp [HR.out]), hb4⟩
        case measure => simp [intOf]; omega
      · go_wp2_with fail
        refine HC.out.mono ?_
        rintro e w' ⟨rfl, hb3⟩
        have hb4 := hb.trans (hb3.mono hb.size)
        go_wp2_with fail
        go_ret
        exact ⟨ret_bool (by rw [any_hit hlt (by simp [HR.out])]), hb4⟩
    · go_wp2_with fail
      go_ret
      exact ⟨ret_bool (by rw [any_end hlt HA.out]), hb⟩

end Go.Proofs.YteaapgijeehhfaaGreatDoor

namespace Go.Proofs.YteaapgijeehhfaaGreatDoor
open Go.RowKit

def par (t : List Nk) (i : Nat) : Option Nat := t[i]?.bind (·.parent)
def fst (t : List Nk) (i : Nat) : Option Nat := t[i]?.bind (·.first)
def lst (t : List Nk) (i : Nat) : Option Nat := t[i]?.bind (·.last)
def prv (t : List Nk) (i : Nat) : Option Nat := t[i]?.bind (·.prev)
def nxt (t : List Nk) (i : Nat) : Option Nat := t[i]?.bind (·.next)
def knd (t : List Nk) (i : Nat) : Int := (t[i]?.map (·.kind)).getD 0
def dat (t : List Nk) (i : Nat) : ByteArray := (t[i]?.map (·.data)).getD ⟨#[]⟩
def atr (t : List Nk) (i : Nat) : List (ByteArray × ByteArray) := (t[i]?.map (·.attrs)).getD []

section
variable {w : World} {bl : Nat → Nat} {t : List Nk} {i : Nat}
theorem TreeAt.cell (h : TreeAt w bl t) (hi : i < t.length) : ∃ av, w.heap[bl i]? = some (.cells #[ptr bl (par t i), ptr bl (fst t i), ptr bl (lst t i), ptr bl (prv t i), ptr bl (nxt t i), .int .u32 (knd t i), .string (dat t i), av] 121 (0, 0)) ∧ SlX 2 32 EAt (fun _ => True) w av (atr t i) := by
  obtain ⟨av, h1, h2⟩ := h.node i hi
  refine ⟨av, ?_, ?_⟩
  · rw [h1]; simp [nodeCells, par, fst, lst, prv, nxt, knd, dat, hi]
  · simpa [atr, hi] using h2
theorem TreeAt.c0 (h : TreeAt w bl t) (hi : i < t.length) : w.cell? ⟨bl i, 0, none⟩ = some (ptr bl (par t i)) := by obtain ⟨av, h1, _⟩ := h.cell hi; rw [cell_of_heap h1]; rfl
theorem TreeAt.c1 (h : TreeAt w bl t) (hi : i < t.length) : w.cell? ⟨bl i, 1, none⟩ = some (ptr bl (fst t i)) := by obtain ⟨av, h1, _⟩ := h.cell hi; rw [cell_of_heap h1]; rfl
theorem TreeAt.c2 (h : TreeAt w bl t) (hi : i < t.length) : w.cell? ⟨bl i, 2, none⟩ = some (ptr bl (lst t i)) := by obtain ⟨av, h1, _⟩ := h.cell hi; rw [cell_of_heap h1]; rfl
theorem TreeAt.c3 (h : TreeAt w bl t) (hi : i < t.length) : w.cell? ⟨bl i, 3, none⟩ = some (ptr bl (prv t i)) := by obtain ⟨av, h1, _⟩ := h.cell hi; rw [cell_of_heap h1]; rfl
theorem TreeAt.c4 (h : TreeAt w bl t) (hi : i < t.length) : w.cell? ⟨bl i, 4, none⟩ = some (ptr bl (nxt t i)) := by obtain ⟨av, h1, _⟩ := h.cell hi; rw [cell_of_heap h1]; rfl
theorem TreeAt.c5 (h : TreeAt w bl t) (hi : i < t.length) : w.cell? ⟨bl i, 5, none⟩ = some (.int .u32 (knd t i)) := by obtain ⟨av, h1, _⟩ := h.cell hi; rw [cell_of_heap h1]; rfl
theorem TreeAt.c6 (h : TreeAt w bl t) (hi : i < t.length) : w.cell? ⟨bl i, 6, none⟩ = some (.string (dat t i)) := by obtain ⟨av, h1, _⟩ := h.cell hi; rw [cell_of_heap h1]; rfl
theorem TreeAt.c7 (h : TreeAt w bl t) (hi : i < t.length) : ∃ av, w.cell? ⟨bl i, 7, none⟩ = some av ∧ SlX 2 32 EAt (fun _ => True) w av (atr t i) := by obtain ⟨av, h1, h2⟩ := h.cell hi; exact ⟨av, by rw [cell_of_heap h1]; rfl, h2⟩

theorem TreeAt.par_lt (h : TreeAt w bl t) {p : Nat} (hi : i < t.length) (hp : par t i = some p) : p < i := h.wf.parent i hi p (by simpa [par, hi] using hp)
theorem TreeAt.prv_lt (h : TreeAt w bl t) {p : Nat} (hi : i < t.length) (hp : prv t i = some p) : p < i := h.wf.prev i hi p (by simpa [prv, hi] using hp)
theorem TreeAt.nxt_lt (h : TreeAt w bl t) {p : Nat} (hi : i < t.length) (hp : nxt t i = some p) : i < p ∧ p < t.length := h.wf.next i hi p (by simpa [nxt, hi] using hp)
theorem TreeAt.fst_lt (h : TreeAt w bl t) {p : Nat} (hi : i < t.length) (hp : fst t i = some p) : i < p ∧ p < t.length := h.wf.first i hi p (by simpa [fst, hi] using hp)
theorem TreeAt.lst_lt (h : TreeAt w bl t) {p : Nat} (hi : i < t.length) (hp : lst t i = some p) : i < p ∧ p < t.length := h.wf.last i hi p (by simpa [lst, hi] using hp)
theorem TreeAt.knd_ge (h : TreeAt w bl t) (hi : i < t.length) : 0 ≤ knd t i ∧ knd t i ≤ 4 := by have := h.wf.kind i hi; simpa [knd, hi] using this
theorem TreeAt.dat_asc (h : TreeAt w bl t) (hi : i < t.length) (h0 : 0 < i) : asc (dat t i) := by have := h.wf.data i hi h0; simpa [dat, hi] using this
theorem TreeAt.atr_asc (h : TreeAt w bl t) (hi : i < t.length) : ∀ a ∈ atr t i, asc a.2 := by have := h.wf.attrs i hi; simpa [atr, hi] using this
end

/-- Whether f holds somewhere along a chain of nodes. -/
def chainAny (step : Nat → Option Nat) (f : Nat → Bool) : Nat → Option Nat → Bool
  | 0, _ => false
  | _ + 1, none => false
  | k + 1, some p => f p || chainAny step f k (step p)

theorem chainAny_none (step : Nat → Option Nat) (f : Nat → Bool) (k : Nat) : chainAny step f k none = false := by cases k <;> rfl

set_option maxRecDepth 100000 in
set_option maxHeartbeats 4000000 in
theorem descMatch_any (w : World) (bl : Nat → Nat) (t : List Nk) (va vd : Value) (ma md : Nat → Bool) (i : Nat) (hi : i < t.length) (ht : TreeAt w bl t) (ha : SelRep t.length bl w va ma) (hd : SelRep t.length bl w vd md) :
    Calls Tryz.prog 168 #[va, vd, .pointer (some ⟨bl i, 0, none⟩)] w fun e w' => e = .returned (.bool (md i && chainAny (par t) ma t.length (par t i))) ∧ Below w.heap.size w w' := by
  obtain ⟨Ta, xa, Fa, rfl, hma, _, hea, hca⟩ := ha
  obtain ⟨Td, xd, Fd, rfl, hmd, _, hed, hcd⟩ := hd
  have HCA := Lib.hid hca
  have HCD := Lib.hid (hcd i w hi (Below.refl _ _))
  obtain ⟨r, hr⟩ : ∃ r, md i = r := ⟨_, rfl⟩
  rw [hr] at HCD ⊢
  have HT := Lib.hid ht
  clear hca hcd hr ht
  cases r
  · go_enter Tryz.func168, Tryz.ntmps168
    go_wp2_with fail
    refine HCD.out.mono ?_
    rintro e w1 ⟨rfl, hb1⟩
    go_wp2_with fail
    go_ret
    exact ⟨rfl, hb1⟩
  · go_enter Tryz.func168, Tryz.ntmps168
    go_wp2_with fail
    refine HCD.out.mono ?_
    rintro e w1 ⟨rfl, hb1⟩
    have ht1 := HT.out.keep hb1
    have p0 := ht1.c0 hi
    have HB1 := Lib.hid hb1
    clear ht1 hb1
    go_wp2_with fail
    go_loopg [7] t.length (fun k v wr => ∃ o, v = ptr bl o ∧ k ≤ t.length ∧ (∀ p, o = some p → p < k) ∧ chainAny (par t) ma k o = chainAny (par t) ma t.length (par t i) ∧ Below w.heap.size w wr)
    case atStart => exact ⟨_, rfl, Nat.le_refl _, fun p hp => by have := HT.out.par_lt hi hp; omega, rfl, HB1.out⟩
    case round =>
      obtain ⟨o, rfl, hk, ho, hch, hb⟩ := hrel
      cases o with
      | none =>
        rw [chainAny_none] at hch
        have HCH := Lib.hid hch
        clear hch ho
        simp only [ptr, Option.map_none]
        go_wp2_with fail
        go_ret
        exact ⟨ret_bool (by rw [← HCH.out]; rfl), hb⟩
      | some p =>
        have hpk := ho p rfl
        obtain ⟨k, rfl⟩ : ∃ k, gk = k + 1 := ⟨gk - 1, by omega⟩
        have hpl : p < t.length := by omega
        have HC := Lib.hid (HCA.out p wr hpl hb)
        simp only [chainAny] at hch
        obtain ⟨r, hr⟩ : ∃ r, ma p = r := ⟨_, rfl⟩
        rw [hr] at HC hch
        have HCH := Lib.hid hch
        clear hch ho hr
        simp only [ptr, Option.map_some]
        cases r
        · go_wp2_with fail
          refine HC.out.mono ?_
          rintro e w2 ⟨rfl, hb2⟩
          have hb3 := hb.trans (hb2.mono hb.size)
          have ht3 := HT.out.keep hb3
          have p1 := ht3.c0 hpl
          have HB3 := Lib.hid hb3
          clear ht3 hb2 hb3
          go_wp2_with fail
          go_roundg k
          case measure => omega
          case rel => exact ⟨_, rfl, by omega, fun q hq => by have := HT.out.par_lt hpl hq; omega, HCH.out, HB3.out⟩
        · go_wp2_with fail
          refine HC.out.mono ?_
          rintro e w2 ⟨rfl, hb2⟩
          have hb3 := hb.trans (hb2.mono hb.size)
          go_wp2_with fail
          go_ret
          exact ⟨ret_bool (by rw [← HCH.out]; rfl), hb3⟩

end Go.Proofs.YteaapgijeehhfaaGreatDoor
