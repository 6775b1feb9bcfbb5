/- How selectors are written; of which ones something is stated. -/
/- How the package keeps parsed selectors. -/
/- The parser reads a pseudo-class without a parenthesis; printed by genps.py. -/
import Derived.Test.YteaapgijeehhfaaGreatDoorZ00
import Derived.Test.YteaapgijeehhfaaGreatDoorZ01
import Derived.Test.YteaapgijeehhfaaGreatDoorZ08
namespace Go.Proofs.YteaapgijeehhfaaGreatDoor
open Go.RowKit

/-- The sign between an attribute's name and its value. -/
def opL (k : Int) : List UInt8 :=
  if k = 5 then [61] else if k = 6 then [126, 61] else if k = 7 then [124, 61] else if k = 8 then [94, 61] else if k = 9 then [36, 61] else if k = 10 then [42, 61] else if k = 16 then [33, 61] else []

/-- A number from -9 to 9. -/
def decL (n : Int) : List UInt8 := if n < 0 then [45, UInt8.ofNat (48 + (-n).toNat)] else [UInt8.ofNat (48 + n.toNat)]
def countL (a b : Int) : List UInt8 := decL a ++ (110 :: (if b < 0 then decL b else 43 :: decL b))
def typeL (t : Bool) : List UInt8 := if t then [111, 102, 45, 116, 121, 112, 101] else [99, 104, 105, 108, 100]
def endL (l : Bool) : List UInt8 := if l then [108, 97, 115, 116, 45] else [102, 105, 114, 115, 116, 45]
def nthL (l : Bool) : List UInt8 := [110, 116, 104, 45] ++ (if l then [108, 97, 115, 116, 45] else [])
def nthW (a b : Int) (l t : Bool) : List UInt8 :=
  if a = 0 ∧ b = 1 then 58 :: (endL l ++ typeL t) else 58 :: (nthL l ++ typeL t ++ (40 :: (countL a b ++ [41])))

/-- A simple selector, written. -/
def wSm (wg : Group → List UInt8) (s : Simple) : List UInt8 :=
  if s.kind = 0 then L s.name
  else if s.kind = 1 then [42]
  else if s.kind = 2 then 35 :: L s.name
  else if s.kind = 3 then 46 :: L s.name
  else if s.kind = 4 then 91 :: (L s.name ++ [93])
  else if s.kind = 11 then nthW s.a s.b s.last s.ofType
  else if s.kind = 12 then [58, 101, 109, 112, 116, 121]
  else if s.kind = 13 then [58, 114, 111, 111, 116]
  else if s.kind = 14 then [58, 110, 111, 116, 40] ++ (wg s.subs ++ [41])
  else if s.kind = 15 then [58, 104, 97, 115, 40] ++ (wg s.subs ++ [41])
  else 91 :: (L s.name ++ (opL s.kind ++ (34 :: (L s.value ++ (34 :: ((if s.fold then [32, 105] else []) ++ [93]))))))

def wParts (wg : Group → List UInt8) (l : List Simple) : List UInt8 := l.flatMap (wSm wg)
/-- What stands ahead of a compound that is not the first. -/
def wJoin (j : ByteArray) : List UInt8 := if L j = [32] then [32] else 32 :: (L j ++ [32])
def wMore (wg : Group → List UInt8) (p : Compound) : List UInt8 := wJoin p.1 ++ wParts wg p.2
def wCx (wg : Group → List UInt8) : Complex → List UInt8
  | [] => []
  | p :: l => wParts wg p.2 ++ l.flatMap (wMore wg)
def wGr (wg : Group → List UInt8) : Group → List UInt8
  | [] => []
  | c :: l => wCx wg c ++ l.flatMap (fun c => 44 :: 32 :: wCx wg c)
/-- A group, written, at most d deep. -/
def wG : Nat → Group → List UInt8
  | 0, _ => []
  | d + 1, g => wGr (wG d) g

/-- Something is stated of a simple selector. -/
structure okSm (og : Group → Prop) (s : Simple) : Prop where
  kind : 0 ≤ s.kind ∧ s.kind ≤ 16
  name : s.kind ≠ 1 → s.kind ≠ 11 → s.kind ≠ 12 → s.kind ≠ 13 → s.kind ≠ 14 → s.kind ≠ 15 → nameL (L s.name) = true
  value : (5 ≤ s.kind ∧ s.kind ≤ 10) ∨ s.kind = 16 → valueL (L s.value) = true
  fold : s.fold = true → 5 ≤ s.kind ∧ s.kind ≤ 10
  nth : s.kind = 11 → -9 ≤ s.a ∧ s.a ≤ 9 ∧ -9 ≤ s.b ∧ s.b ≤ 9
  subs : s.kind = 14 ∨ s.kind = 15 → og s.subs
/-- Simple selectors of one element: only the first may be a tag or any. -/
structure okParts (og : Group → Prop) (l : List Simple) : Prop where
  len : 1 ≤ l.length ∧ l.length ≤ 4
  each : ∀ k (h : k < l.length), okSm og l[k] ∧ (0 < k → 1 < l[k].kind)
def okJoin (j : ByteArray) : Prop := L j = [32] ∨ L j = [62] ∨ L j = [43] ∨ L j = [126]
structure okCx (og : Group → Prop) (c : Complex) : Prop where
  len : 1 ≤ c.length ∧ c.length ≤ 4
  each : ∀ k (h : k < c.length), okParts og c[k].2 ∧ (0 < k → okJoin c[k].1)
structure okGr (og : Group → Prop) (g : Group) : Prop where
  len : 1 ≤ g.length ∧ g.length ≤ 3
  each : ∀ k (h : k < g.length), okCx og g[k]
def okG : Nat → Group → Prop
  | 0, _ => False
  | d + 1, g => okGr (okG d) g

end Go.Proofs.YteaapgijeehhfaaGreatDoor

namespace Go.Proofs.YteaapgijeehhfaaGreatDoor
open Go.RowKit

/-- A simple selector's value; gv: that of the selectors within. -/
def vSm (s : Simple) (gv : Value) : Value :=
  if s.kind = 0 then .iface 153 (.agg #[.string s.name])
  else if s.kind = 2 then .iface 157 (.agg #[.string s.name])
  else if s.kind = 3 then .iface 161 (.agg #[.string s.name])
  else if s.kind = 4 then .iface 165 (.agg #[.string s.name, .string ⟨#[]⟩, .string ⟨#[]⟩, .bool false])
  else if s.kind = 11 then .iface 185 (.agg #[.int .i64 s.a, .int .i64 s.b, .bool s.last, .bool s.ofType])
  else if s.kind = 12 then .iface 190 (.agg #[])
  else if s.kind = 13 then .iface 191 (.agg #[])
  else if s.kind = 14 then .iface 177 (.agg #[.string ⟨#[110, 111, 116]⟩, gv])
  else if s.kind = 15 then .iface 177 (.agg #[.string ⟨#[104, 97, 115]⟩, gv])
  else .iface 165 (.agg #[.string s.name, .string s.value, .string (bs (opL s.kind)), .bool s.fold])

def notAny (s : Simple) : Bool := decide (s.kind ≠ 1)

def RSm (R : GRep) (X : Nat → Prop) (w : World) (v : Value) (s : Simple) : Prop :=
  ∃ gv, v = vSm s gv ∧ (s.kind = 14 ∨ s.kind = 15 → R X w gv s.subs)
/-- One interface value an element. -/
def EV {α : Type} (R : (Nat → Prop) → World → Value → α → Prop) (X : Nat → Prop) (w : World) (cs : List Value) (x : α) : Prop :=
  ∃ v, cs = [v] ∧ v.oneCell' = true ∧ R X w v x
def RPs (R : GRep) (X : Nat → Prop) (w : World) (v : Value) (l : List Simple) : Prop :=
  (∃ s, l = [s] ∧ RSm R X w v s) ∨ (l.length ≠ 1 ∧ ∃ sl, v = .iface 171 (.agg #[sl, .string ⟨#[]⟩]) ∧ SlX 1 16 (EV (RSm R)) X w sl l)
def joinB (j : ByteArray) : Int := match L j with | [] => 32 | c :: _ => c.toNat
/-- Compounds, the last one first. -/
def RCx (R : GRep) (X : Nat → Prop) (w : World) : Value → List Compound → Prop
  | _, [] => False
  | v, [p] => RPs R X w v (p.2.filter notAny)
  | v, p :: q :: l => ∃ v1 v2, v = .iface 148 (.agg #[v1, .int .u8 (joinB p.1), v2]) ∧ v1.oneCell' = true ∧ v2.oneCell' = true ∧ RCx R X w v1 (q :: l) ∧ RPs R X w v2 (p.2.filter notAny)
def RCr (R : GRep) (X : Nat → Prop) (w : World) (v : Value) (c : Complex) : Prop := RCx R X w v c.reverse
def RS : Nat → GRep
  | 0 => fun _ _ _ _ => False
  | d + 1 => SlX 1 16 (EV (RCr (RS d)))

theorem RSm.rep {R : GRep} (hR : ValRep R) : ValRep (RSm R) where
  keep := fun hk ⟨gv, h1, h2⟩ => ⟨gv, h1, fun h => hR.keep hk (h2 h)⟩
  lt := fun ⟨gv, h1, h2⟩ => ⟨gv, h1, fun h => hR.lt (h2 h)⟩
  mono := fun hX ⟨gv, h1, h2⟩ => ⟨gv, h1, fun h => hR.mono hX (h2 h)⟩
theorem EV.rep {α : Type} {R : (Nat → Prop) → World → Value → α → Prop} (hR : ValRep R) : ElemRep (EV R) where
  keep := fun hk ⟨v, h1, h0, h2⟩ => ⟨v, h1, h0, hR.keep hk h2⟩
  lt := fun ⟨v, h1, h0, h2⟩ => ⟨v, h1, h0, hR.lt h2⟩
  mono := fun hX ⟨v, h1, h0, h2⟩ => ⟨v, h1, h0, hR.mono hX h2⟩
theorem RPs.rep {R : GRep} (hR : ValRep R) : ValRep (RPs R) :=
  have hS := SlX.rep (sz := 1) (bt := 16) (EV.rep (RSm.rep hR)) (by omega)
  { keep := fun hk h => h.elim (fun ⟨s, h1, h2⟩ => .inl ⟨s, h1, (RSm.rep hR).keep hk h2⟩) (fun ⟨h0, sl, h1, h2⟩ => .inr ⟨h0, sl, h1, hS.keep hk h2⟩)
    lt := fun h => h.elim (fun ⟨s, h1, h2⟩ => .inl ⟨s, h1, (RSm.rep hR).lt h2⟩) (fun ⟨h0, sl, h1, h2⟩ => .inr ⟨h0, sl, h1, hS.lt h2⟩)
    mono := fun hX h => h.elim (fun ⟨s, h1, h2⟩ => .inl ⟨s, h1, (RSm.rep hR).mono hX h2⟩) (fun ⟨h0, sl, h1, h2⟩ => .inr ⟨h0, sl, h1, hS.mono hX h2⟩) }
theorem RCx.rep {R : GRep} (hR : ValRep R) : ValRep (RCx R) := by
  have hP := RPs.rep hR
  refine ⟨?_, ?_, ?_⟩
  · intro X w w' v l hk
    induction l generalizing v with
    | nil => exact fun h => h
    | cons p l ih =>
      cases l with
      | nil => exact fun h => hP.keep hk h
      | cons q l => exact fun ⟨v1, v2, h1, a1, a2, h2, h3⟩ => ⟨v1, v2, h1, a1, a2, ih h2, hP.keep hk h3⟩
  · intro X w v l
    induction l generalizing v with
    | nil => exact fun h => h
    | cons p l ih =>
      cases l with
      | nil => exact fun h => hP.lt h
      | cons q l => exact fun ⟨v1, v2, h1, a1, a2, h2, h3⟩ => ⟨v1, v2, h1, a1, a2, ih h2, hP.lt h3⟩
  · intro X Y w v l hX
    induction l generalizing v with
    | nil => exact fun h => h
    | cons p l ih =>
      cases l with
      | nil => exact fun h => hP.mono hX h
      | cons q l => exact fun ⟨v1, v2, h1, a1, a2, h2, h3⟩ => ⟨v1, v2, h1, a1, a2, ih h2, hP.mono hX h3⟩
theorem RCr.rep {R : GRep} (hR : ValRep R) : ValRep (RCr R) := ⟨fun hk h => (RCx.rep hR).keep hk h, fun h => (RCx.rep hR).lt h, fun hX h => (RCx.rep hR).mono hX h⟩
theorem RS.rep : ∀ d, ValRep (RS d)
  | 0 => ⟨fun _ h => h.elim, fun h => h.elim, fun _ h => h.elim⟩
  | d + 1 => SlX.rep (EV.rep (RCr.rep (RS.rep d))) (by omega)

theorem vSm_one (s : Simple) (gv : Value) : (vSm s gv).oneCell' = true := by
  unfold vSm; repeat' split
  all_goals rfl
theorem RPs.one {R : GRep} {X : Nat → Prop} {w : World} {v : Value} {l : List Simple} (h : RPs R X w v l) : v.oneCell' = true := by
  rcases h with ⟨s, _, gv, rfl, _⟩ | ⟨_, sl, rfl, _⟩
  · exact vSm_one s gv
  · rfl
theorem RCx.one {R : GRep} {X : Nat → Prop} {w : World} {v : Value} {l : List Compound} (h : RCx R X w v l) : v.oneCell' = true := by
  cases l with
  | nil => exact h.elim
  | cons p l =>
    cases l with
    | nil => exact RPs.one h
    | cons q l => obtain ⟨v1, v2, rfl, _⟩ := h; rfl

end Go.Proofs.YteaapgijeehhfaaGreatDoor

namespace Go.Proofs.YteaapgijeehhfaaGreatDoor
open Go.RowKit

/-- The world by another name, with what is known of it. -/
theorem st_goal {P : Program} {c : Code} {Q : Exit → Act → World → Prop} {a : Act} {w w0 : World} {bp d i : Nat} {s : ByteArray} (hst : St bp s d w0 w i)
    (h : ∀ W, St bp s d w0 W i → c.wp P Q a W) : c.wp P Q a w := h w hst

theorem parseIdent_lit (w : World) (bp : Nat) (s : ByteArray) (i d : Nat) (n r : List UInt8) (x : ByteArray) (hx : bs n = x) (hp : PS w bp s i d) (ha : At s i (n ++ r)) (hs : s.size ≤ 140737488351232)
    (hn : n.all nch = true) (hh : headSmall n = true) (hr : headP stopC r) :
    Calls Tryz.prog 87 #[.pointer (some ⟨bp, 0, none⟩)] w (PPost w bp s (i + n.length) d (.tuple #[.string x, .nilIface])) := by
  subst hx; exact parseIdent_any w bp s i d n r hp ha hs hn hh hr

theorem lower_lit (n : List UInt8) (x : ByteArray) (hx : bs n = x) (w : World) (hn : n.all nch = true) (hs : n.length ≤ 140737488351232) :
    Calls Tryz.prog 88 #[.string x] w fun e w' => e = .returned (.string x) ∧ w = w' := by
  subst hx; exact lower_any n w hn hs

set_option maxRecDepth 100000 in
set_option maxHeartbeats 4000000 in
theorem ps_empty (w : World) (bp : Nat) (s : ByteArray) (i d : Nat) (r : List UInt8) (hp : PS w bp s i d) (ha : At s i (58 :: ([101, 109, 112, 116, 121] ++ r))) (hs : s.size ≤ 140737488351232) (hr : headP stopC r) :
    Calls Tryz.prog 83 #[.pointer (some ⟨bp, 0, none⟩)] w (PPost w bp s (i + 6) d (.tuple #[.iface 190 (.agg #[]), .string ⟨#[]⟩, .nilIface])) := by
  have h0 := hp.c0
  have h1 := hp.c1
  have f1 := hp.f1
  have hlt0 := ha.lt
  have hlt1 : (i : Int) < (s.size : Int) := by omega
  have hg0 := ha.get
  have e0 : ((s[i].toNat : Int) != 58) = false := by rw [hg0]; rfl
  obtain ⟨q, hq⟩ : ∃ q, q = i + 1 := ⟨_, rfl⟩
  have haq : At s q ([101, 109, 112, 116, 121] ++ r) := by rw [hq]; exact ha.next
  have hqlt := At.lt (c := 101) (r := _) haq
  have hqlt1 : (q : Int) < (s.size : Int) := by omega
  have hgq := At.get (c := 101) (r := _) haq
  have e1 : ((s[q].toNat : Int) == 58) = false := by rw [hgq]; rfl
  have HQ0 := Lib.hid (St.start hp)
  have HAQ := Lib.hid haq
  have HNQ := Lib.hid hq
  have HR := Lib.hid hr
  clear ha haq hg0 hgq hp hr hq
  go_enter Tryz.func83, Tryz.ntmps83
  go_wp2_with fail
  go_quiet (fail)
  go_wp2_with fail
  go_quiet (fail)
  go_wp2_with fail
  refine st_goal ((HQ0.out.drewN _).setI q _ (by have := HNQ.out; omega)) (fun W hst => ?_)
  have HQQ := Lib.hid hst
  have g0 := hst.c0
  have g1 := hst.c1
  have g2 := hst.f1
  clear hst h0 h1 f1
  go_quiet (fail)
  go_wp2_with fail
  go_quiet (fail)
  go_wp2_with (first | (go_at_call 87; refine (parseIdent_lit _ bp s q d [101, 109, 112, 116, 121] _ ⟨#[101, 109, 112, 116, 121]⟩ rfl (by exact (HQQ.out.drewN _).ps) HAQ.out hs (by decide) (by decide) HR.out).mono ?_; rintro e w' ⟨rfl, hp2, hm2⟩; have HQ2 := Lib.hid ((HQQ.out.drewN _).after hp2 hm2); clear hp2 hm2) | (go_at_call 88; refine (lower_lit [101, 109, 112, 116, 121] ⟨#[101, 109, 112, 116, 121]⟩ rfl _ (by decide) (by decide)).mono ?_; rintro e w'' ⟨rfl, rfl⟩))
  have hend : q + [101, 109, 112, 116, 121].length = i + 6 := by have := HNQ.out; simp only [List.length_cons, List.length_nil]; omega
  rw [← hend]
  exact bodyPost_ret (v := .tuple #[.iface 190 (.agg #[]), .string ⟨#[]⟩, .nilIface]) (by simp [results, Tryz.results83, go_sem]) rfl (HQ2.out.post _)

set_option maxRecDepth 100000 in
set_option maxHeartbeats 4000000 in
theorem ps_root (w : World) (bp : Nat) (s : ByteArray) (i d : Nat) (r : List UInt8) (hp : PS w bp s i d) (ha : At s i (58 :: ([114, 111, 111, 116] ++ r))) (hs : s.size ≤ 140737488351232) (hr : headP stopC r) :
    Calls Tryz.prog 83 #[.pointer (some ⟨bp, 0, none⟩)] w (PPost w bp s (i + 5) d (.tuple #[.iface 191 (.agg #[]), .string ⟨#[]⟩, .nilIface])) := by
  have h0 := hp.c0
  have h1 := hp.c1
  have f1 := hp.f1
  have hlt0 := ha.lt
  have hlt1 : (i : Int) < (s.size : Int) := by omega
  have hg0 := ha.get
  have e0 : ((s[i].toNat : Int) != 58) = false := by rw [hg0]; rfl
  obtain ⟨q, hq⟩ : ∃ q, q = i + 1 := ⟨_, rfl⟩
  have haq : At s q ([114, 111, 111, 116] ++ r) := by rw [hq]; exact ha.next
  have hqlt := At.lt (c := 114) (r := _) haq
  have hqlt1 : (q : Int) < (s.size : Int) := by omega
  have hgq := At.get (c := 114) (r := _) haq
  have e1 : ((s[q].toNat : Int) == 58) = false := by rw [hgq]; rfl
  have HQ0 := Lib.hid (St.start hp)
  have HAQ := Lib.hid haq
  have HNQ := Lib.hid hq
  have HR := Lib.hid hr
  clear ha haq hg0 hgq hp hr hq
  go_enter Tryz.func83, Tryz.ntmps83
  go_wp2_with fail
  go_quiet (fail)
  go_wp2_with fail
  go_quiet (fail)
  go_wp2_with fail
  refine st_goal ((HQ0.out.drewN _).setI q _ (by have := HNQ.out; omega)) (fun W hst => ?_)
  have HQQ := Lib.hid hst
  have g0 := hst.c0
  have g1 := hst.c1
  have g2 := hst.f1
  clear hst h0 h1 f1
  go_quiet (fail)
  go_wp2_with fail
  go_quiet (fail)
  go_wp2_with (first | (go_at_call 87; refine (parseIdent_lit _ bp s q d [114, 111, 111, 116] _ ⟨#[114, 111, 111, 116]⟩ rfl (by exact (HQQ.out.drewN _).ps) HAQ.out hs (by decide) (by decide) HR.out).mono ?_; rintro e w' ⟨rfl, hp2, hm2⟩; have HQ2 := Lib.hid ((HQQ.out.drewN _).after hp2 hm2); clear hp2 hm2) | (go_at_call 88; refine (lower_lit [114, 111, 111, 116] ⟨#[114, 111, 111, 116]⟩ rfl _ (by decide) (by decide)).mono ?_; rintro e w'' ⟨rfl, rfl⟩))
  have hend : q + [114, 111, 111, 116].length = i + 5 := by have := HNQ.out; simp only [List.length_cons, List.length_nil]; omega
  rw [← hend]
  exact bodyPost_ret (v := .tuple #[.iface 191 (.agg #[]), .string ⟨#[]⟩, .nilIface]) (by simp [results, Tryz.results83, go_sem]) rfl (HQ2.out.post _)

set_option maxRecDepth 100000 in
set_option maxHeartbeats 4000000 in
theorem ps_fc (w : World) (bp : Nat) (s : ByteArray) (i d : Nat) (r : List UInt8) (hp : PS w bp s i d) (ha : At s i (58 :: ([102, 105, 114, 115, 116, 45, 99, 104, 105, 108, 100] ++ r))) (hs : s.size ≤ 140737488351232) (hr : headP stopC r) :
    Calls Tryz.prog 83 #[.pointer (some ⟨bp, 0, none⟩)] w (PPost w bp s (i + 12) d (.tuple #[.iface 185 (.agg #[.int .i64 0, .int .i64 1, .bool false, .bool false]), .string ⟨#[]⟩, .nilIface])) := by
  have h0 := hp.c0
  have h1 := hp.c1
  have f1 := hp.f1
  have hlt0 := ha.lt
  have hlt1 : (i : Int) < (s.size : Int) := by omega
  have hg0 := ha.get
  have e0 : ((s[i].toNat : Int) != 58) = false := by rw [hg0]; rfl
  obtain ⟨q, hq⟩ : ∃ q, q = i + 1 := ⟨_, rfl⟩
  have haq : At s q ([102, 105, 114, 115, 116, 45, 99, 104, 105, 108, 100] ++ r) := by rw [hq]; exact ha.next
  have hqlt := At.lt (c := 102) (r := _) haq
  have hqlt1 : (q : Int) < (s.size : Int) := by omega
  have hgq := At.get (c := 102) (r := _) haq
  have e1 : ((s[q].toNat : Int) == 58) = false := by rw [hgq]; rfl
  have HQ0 := Lib.hid (St.start hp)
  have HAQ := Lib.hid haq
  have HNQ := Lib.hid hq
  have HR := Lib.hid hr
  clear ha haq hg0 hgq hp hr hq
  go_enter Tryz.func83, Tryz.ntmps83
  go_wp2_with fail
  go_quiet (fail)
  go_wp2_with fail
  go_quiet (fail)
  go_wp2_with fail
  refine st_goal ((HQ0.out.drewN _).setI q _ (by have := HNQ.out; omega)) (fun W hst => ?_)
  have HQQ := Lib.hid hst
  have g0 := hst.c0
  have g1 := hst.c1
  have g2 := hst.f1
  clear hst h0 h1 f1
  go_quiet (fail)
  go_wp2_with fail
  go_quiet (fail)
  go_wp2_with (first | (go_at_call 87; refine (parseIdent_lit _ bp s q d [102, 105, 114, 115, 116, 45, 99, 104, 105, 108, 100] _ ⟨#[102, 105, 114, 115, 116, 45, 99, 104, 105, 108, 100]⟩ rfl (by exact (HQQ.out.drewN _).ps) HAQ.out hs (by decide) (by decide) HR.out).mono ?_; rintro e w' ⟨rfl, hp2, hm2⟩; have HQ2 := Lib.hid ((HQQ.out.drewN _).after hp2 hm2); clear hp2 hm2) | (go_at_call 88; refine (lower_lit [102, 105, 114, 115, 116, 45, 99, 104, 105, 108, 100] ⟨#[102, 105, 114, 115, 116, 45, 99, 104, 105, 108, 100]⟩ rfl _ (by decide) (by decide)).mono ?_; rintro e w'' ⟨rfl, rfl⟩))
  have hend : q + [102, 105, 114, 115, 116, 45, 99, 104, 105, 108, 100].length = i + 12 := by have := HNQ.out; simp only [List.length_cons, List.length_nil]; omega
  rw [← hend]
  exact bodyPost_ret (v := .tuple #[.iface 185 (.agg #[.int .i64 0, .int .i64 1, .bool false, .bool false]), .string ⟨#[]⟩, .nilIface]) (by simp [results, Tryz.results83, go_sem]) rfl (HQ2.out.post _)

set_option maxRecDepth 100000 in
set_option maxHeartbeats 4000000 in
theorem ps_lc (w : World) (bp : Nat) (s : ByteArray) (i d : Nat) (r : List UInt8) (hp : PS w bp s i d) (ha : At s i (58 :: ([108, 97, 115, 116, 45, 99, 104, 105, 108, 100] ++ r))) (hs : s.size ≤ 140737488351232) (hr : headP stopC r) :
    Calls Tryz.prog 83 #[.pointer (some ⟨bp, 0, none⟩)] w (PPost w bp s (i + 11) d (.tuple #[.iface 185 (.agg #[.int .i64 0, .int .i64 1, .bool true, .bool false]), .string ⟨#[]⟩, .nilIface])) := by
  have h0 := hp.c0
  have h1 := hp.c1
  have f1 := hp.f1
  have hlt0 := ha.lt
  have hlt1 : (i : Int) < (s.size : Int) := by omega
  have hg0 := ha.get
  have e0 : ((s[i].toNat : Int) != 58) = false := by rw [hg0]; rfl
  obtain ⟨q, hq⟩ : ∃ q, q = i + 1 := ⟨_, rfl⟩
  have haq : At s q ([108, 97, 115, 116, 45, 99, 104, 105, 108, 100] ++ r) := by rw [hq]; exact ha.next
  have hqlt := At.lt (c := 108) (r := _) haq
  have hqlt1 : (q : Int) < (s.size : Int) := by omega
  have hgq := At.get (c := 108) (r := _) haq
  have e1 : ((s[q].toNat : Int) == 58) = false := by rw [hgq]; rfl
  have HQ0 := Lib.hid (St.start hp)
  have HAQ := Lib.hid haq
  have HNQ := Lib.hid hq
  have HR := Lib.hid hr
  clear ha haq hg0 hgq hp hr hq
  go_enter Tryz.func83, Tryz.ntmps83
  go_wp2_with fail
  go_quiet (fail)
  go_wp2_with fail
  go_quiet (fail)
  go_wp2_with fail
  refine st_goal ((HQ0.out.drewN _).setI q _ (by have := HNQ.out; omega)) (fun W hst => ?_)
  have HQQ := Lib.hid hst
  have g0 := hst.c0
  have g1 := hst.c1
  have g2 := hst.f1
  clear hst h0 h1 f1
  go_quiet (fail)
  go_wp2_with fail
  go_quiet (fail)
  go_wp2_with (first | (go_at_call 87; refine (parseIdent_lit _ bp s q d [108, 97, 115, 116, 45, 99, 104, 105, 108, 100] _ ⟨#[108, 97, 115, 116, 45, 99, 104, 105, 108, 100]⟩ rfl (by exact (HQQ.out.drewN _).ps) HAQ.out hs (by decide) (by decide) HR.out).mono ?_; rintro e w' ⟨rfl, hp2, hm2⟩; have HQ2 := Lib.hid ((HQQ.out.drewN _).after hp2 hm2); clear hp2 hm2) | (go_at_call 88; refine (lower_lit [108, 97, 115, 116, 45, 99, 104, 105, 108, 100] ⟨#[108, 97, 115, 116, 45, 99, 104, 105, 108, 100]⟩ rfl _ (by decide) (by decide)).mono ?_; rintro e w'' ⟨rfl, rfl⟩))
  have hend : q + [108, 97, 115, 116, 45, 99, 104, 105, 108, 100].length = i + 11 := by have := HNQ.out; simp only [List.length_cons, List.length_nil]; omega
  rw [← hend]
  exact bodyPost_ret (v := .tuple #[.iface 185 (.agg #[.int .i64 0, .int .i64 1, .bool true, .bool false]), .string ⟨#[]⟩, .nilIface]) (by simp [results, Tryz.results83, go_sem]) rfl (HQ2.out.post _)

set_option maxRecDepth 100000 in
set_option maxHeartbeats 4000000 in
theorem ps_ft (w : World) (bp : Nat) (s : ByteArray) (i d : Nat) (r : List UInt8) (hp : PS w bp s i d) (ha : At s i (58 :: ([102, 105, 114, 115, 116, 45, 111, 102, 45, 116, 121, 112, 101] ++ r))) (hs : s.size ≤ 140737488351232) (hr : headP stopC r) :
    Calls Tryz.prog 83 #[.pointer (some ⟨bp, 0, none⟩)] w (PPost w bp s (i + 14) d (.tuple #[.iface 185 (.agg #[.int .i64 0, .int .i64 1, .bool false, .bool true]), .string ⟨#[]⟩, .nilIface])) := by
  have h0 := hp.c0
  have h1 := hp.c1
  have f1 := hp.f1
  have hlt0 := ha.lt
  have hlt1 : (i : Int) < (s.size : Int) := by omega
  have hg0 := ha.get
  have e0 : ((s[i].toNat : Int) != 58) = false := by rw [hg0]; rfl
  obtain ⟨q, hq⟩ : ∃ q, q = i + 1 := ⟨_, rfl⟩
  have haq : At s q ([102, 105, 114, 115, 116, 45, 111, 102, 45, 116, 121, 112, 101] ++ r) := by rw [hq]; exact ha.next
  have hqlt := At.lt (c := 102) (r := _) haq
  have hqlt1 : (q : Int) < (s.size : Int) := by omega
  have hgq := At.get (c := 102) (r := _) haq
  have e1 : ((s[q].toNat : Int) == 58) = false := by rw [hgq]; rfl
  have HQ0 := Lib.hid (St.start hp)
  have HAQ := Lib.hid haq
  have HNQ := Lib.hid hq
  have HR := Lib.hid hr
  clear ha haq hg0 hgq hp hr hq
  go_enter Tryz.func83, Tryz.ntmps83
  go_wp2_with fail
  go_quiet (fail)
  go_wp2_with fail
  go_quiet (fail)
  go_wp2_with fail
  refine st_goal ((HQ0.out.drewN _).setI q _ (by have := HNQ.out; omega)) (fun W hst => ?_)
  have HQQ := Lib.hid hst
  have g0 := hst.c0
  have g1 := hst.c1
  have g2 := hst.f1
  clear hst h0 h1 f1
  go_quiet (fail)
  go_wp2_with fail
  go_quiet (fail)
  go_wp2_with (first | (go_at_call 87; refine (parseIdent_lit _ bp s q d [102, 105, 114, 115, 116, 45, 111, 102, 45, 116, 121, 112, 101] _ ⟨#[102, 105, 114, 115, 116, 45, 111, 102, 45, 116, 121, 112, 101]⟩ rfl (by exact (HQQ.out.drewN _).ps) HAQ.out hs (by decide) (by decide) HR.out).mono ?_; rintro e w' ⟨rfl, hp2, hm2⟩; have HQ2 := Lib.hid ((HQQ.out.drewN _).after hp2 hm2); clear hp2 hm2) | (go_at_call 88; refine (lower_lit [102, 105, 114, 115, 116, 45, 111, 102, 45, 116, 121, 112, 101] ⟨#[102, 105, 114, 115, 116, 45, 111, 102, 45, 116, 121, 112, 101]⟩ rfl _ (by decide) (by decide)).mono ?_; rintro e w'' ⟨rfl, rfl⟩))
  have hend : q + [102, 105, 114, 115, 116, 45, 111, 102, 45, 116, 121, 112, 101].length = i + 14 := by have := HNQ.out; simp only [List.length_cons, List.length_nil]; omega
  rw [← hend]
  exact bodyPost_ret (v := .tuple #[.iface 185 (.agg #[.int .i64 0, .int .i64 1, .bool false, .bool true]), .string ⟨#[]⟩, .nilIface]) (by simp [results, Tryz.results83, go_sem]) rfl (HQ2.out.post _)

set_option maxRecDepth 100000 in
set_option maxHeartbeats 4000000 in
theorem ps_lt (w : World) (bp : Nat) (s : ByteArray) (i d : Nat) (r : List UInt8) (hp : PS w bp s i d) (ha : At s i (58 :: ([108, 97, 115, 116, 45, 111, 102, 45, 116, 121, 112, 101] ++ r))) (hs : s.size ≤ 140737488351232) (hr : headP stopC r) :
    Calls Tryz.prog 83 #[.pointer (some ⟨bp, 0, none⟩)] w (PPost w bp s (i + 13) d (.tuple #[.iface 185 (.agg #[.int .i64 0, .int .i64 1, .bool true, .bool true]), .string ⟨#[]⟩, .nilIface])) := by
  have h0 := hp.c0
  have h1 := hp.c1
  have f1 := hp.f1
  have hlt0 := ha.lt
  have hlt1 : (i : Int) < (s.size : Int) := by omega
  have hg0 := ha.get
  have e0 : ((s[i].toNat : Int) != 58) = false := by rw [hg0]; rfl
  obtain ⟨q, hq⟩ : ∃ q, q = i + 1 := ⟨_, rfl⟩
  have haq : At s q ([108, 97, 115, 116, 45, 111, 102, 45, 116, 121, 112, 101] ++ r) := by rw [hq]; exact ha.next
  have hqlt := At.lt (c := 108) (r := _) haq
  have hqlt1 : (q : Int) < (s.size : Int) := by omega
  have hgq := At.get (c := 108) (r := _) haq
  have e1 : ((s[q].toNat : Int) == 58) = false := by rw [hgq]; rfl
  have HQ0 := Lib.hid (St.start hp)
  have HAQ := Lib.hid haq
  have HNQ := Lib.hid hq
  have HR := Lib.hid hr
  clear ha haq hg0 hgq hp hr hq
  go_enter Tryz.func83, Tryz.ntmps83
  go_wp2_with fail
  go_quiet (fail)
  go_wp2_with fail
  go_quiet (fail)
  go_wp2_with fail
  refine st_goal ((HQ0.out.drewN _).setI q _ (by have := HNQ.out; omega)) (fun W hst => ?_)
  have HQQ := Lib.hid hst
  have g0 := hst.c0
  have g1 := hst.c1
  have g2 := hst.f1
  clear hst h0 h1 f1
  go_quiet (fail)
  go_wp2_with fail
  go_quiet (fail)
  go_wp2_with (first | (go_at_call 87; refine (parseIdent_lit _ bp s q d [108, 97, 115, 116, 45, 111, 102, 45, 116, 121, 112, 101] _ ⟨#[108, 97, 115, 116, 45, 111, 102, 45, 116, 121, 112, 101]⟩ rfl (by exact (HQQ.out.drewN _).ps) HAQ.out hs (by decide) (by decide) HR.out).mono ?_; rintro e w' ⟨rfl, hp2, hm2⟩; have HQ2 := Lib.hid ((HQQ.out.drewN _).after hp2 hm2); clear hp2 hm2) | (go_at_call 88; refine (lower_lit [108, 97, 115, 116, 45, 111, 102, 45, 116, 121, 112, 101] ⟨#[108, 97, 115, 116, 45, 111, 102, 45, 116, 121, 112, 101]⟩ rfl _ (by decide) (by decide)).mono ?_; rintro e w'' ⟨rfl, rfl⟩))
  have hend : q + [108, 97, 115, 116, 45, 111, 102, 45, 116, 121, 112, 101].length = i + 13 := by have := HNQ.out; simp only [List.length_cons, List.length_nil]; omega
  rw [← hend]
  exact bodyPost_ret (v := .tuple #[.iface 185 (.agg #[.int .i64 0, .int .i64 1, .bool true, .bool true]), .string ⟨#[]⟩, .nilIface]) (by simp [results, Tryz.results83, go_sem]) rfl (HQ2.out.post _)

end Go.Proofs.YteaapgijeehhfaaGreatDoor
