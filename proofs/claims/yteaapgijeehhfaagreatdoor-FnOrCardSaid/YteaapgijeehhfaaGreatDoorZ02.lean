/- The parser's state in the heap; what stands at its position. -/
/- The parser's small steps: white space, parentheses. -/
/- Which bytes names are made of, as the package asks it. -/
import Derived.Test.YteaapgijeehhfaaGreatDoorZ01
import Derived.Deep.QuietTactic
import Derived.BigQuiet
import Derived.WalkSpells
import Derived.WalkLawsBesides
import Derived.Test.YteaapgijeehhfaaGreatDoorZ00
namespace Go.Proofs.YteaapgijeehhfaaGreatDoor
open Go.RowKit

/-- The parser at block bp: its text, its position, its depth; no pseudo-elements. -/
def PS (w : World) (bp : Nat) (s : ByteArray) (i : Nat) (d : Nat) : Prop :=
  w.heap[bp]? = some (.cells #[.string s, .int .i64 i, .int .i64 d, .bool false] 115 (0, 0))

/-- Nothing that was there has changed but block bp. -/
structure Mv (bp : Nat) (w w' : World) : Prop where
  os : w'.os = w.os
  tape : w'.tape = w.tape
  output : w'.output = w.output
  size : w.heap.size ≤ w'.heap.size
  block : ∀ k, k < w.heap.size → k ≠ bp → w'.heap[k]? = w.heap[k]?

theorem Mv.refl (bp : Nat) (w : World) : Mv bp w w := ⟨rfl, rfl, rfl, Nat.le_refl _, fun _ _ _ => rfl⟩
theorem Mv.trans {bp : Nat} {a b c : World} (h : Mv bp a b) (k : Mv bp b c) : Mv bp a c :=
  ⟨k.os.trans h.os, k.tape.trans h.tape, k.output.trans h.output, Nat.le_trans h.size k.size, fun i hi hne => (k.block i (Nat.lt_of_lt_of_le hi h.size) hne).trans (h.block i hi hne)⟩
theorem Mv.of_below {bp : Nat} {a b : World} (h : Below a.heap.size a b) : Mv bp a b := ⟨h.os, h.tape, h.output, h.size, fun k hk _ => h.block k hk⟩
theorem Mv.drewN {bp : Nat} {a b : World} (h : Mv bp a b) (n : Nat) : Mv bp a (b.drewN n) := ⟨h.os, h.tape, h.output, h.size, h.block⟩
theorem Mv.drew {bp : Nat} {a b : World} (h : Mv bp a b) : Mv bp a b.drew := ⟨h.os, h.tape, h.output, h.size, h.block⟩
theorem Mv.alloc {bp : Nat} {a b : World} (h : Mv bp a b) (o : Obj) : Mv bp a (b.alloc o) := h.trans (Mv.of_below ((Below.refl _ _).alloc (Nat.le_refl _) o))
theorem Mv.setCell {bp : Nat} {a b : World} (h : Mv bp a b) (o : Nat) (u : Value) : Mv bp a (b.setCell ⟨bp, o, none⟩ u) :=
  h.trans ⟨rfl, rfl, rfl, by simp [World.setCell], fun k _ hne => Below.heap_setCell _ _ _ _ hne⟩
theorem Mv.setNew {bp : Nat} {a b : World} (h : Mv bp a b) {N : Nat} (hN : a.heap.size ≤ N) (o : Nat) (u : Value) : Mv bp a (b.setCell ⟨N, o, none⟩ u) :=
  ⟨h.os, h.tape, h.output, Nat.le_trans h.size (by simp [World.setCell]), fun k hk hne => (Below.heap_setCell _ _ _ _ (by show k ≠ N; omega)).trans (h.block k hk hne)⟩
theorem Mv.cell {bp : Nat} {a b : World} (h : Mv bp a b) {k o : Nat} {u : Value} (hk : a.cell? ⟨k, o, none⟩ = some u) (hne : k ≠ bp) : b.cell? ⟨k, o, none⟩ = some u := by
  rw [World.cell?_of_block (w := a) (a := ⟨k, o, none⟩) (h.block k (lt_of_cell hk) hne)]; exact hk
theorem Mv.free {bp : Nat} {a b : World} (h : Mv bp a b) {k o : Nat} (hlt : k < a.heap.size) (hk : a.frozen? ⟨k, o, none⟩ = false) (hne : k ≠ bp) : b.frozen? ⟨k, o, none⟩ = false := by
  rw [World.frozen?_of_block (w := a) (a := ⟨k, o, none⟩) (h.block k hlt hne)]; exact hk
theorem Mv.keep {bp : Nat} {a b : World} (h : Mv bp a b) : KeepX (fun k => k ≠ bp) a b := fun k hk hne => h.block k hk hne
theorem Mv.below {bp B : Nat} {a b : World} (h : Mv bp a b) (hB : B ≤ bp) (hs : B ≤ a.heap.size) : Below B a b := ⟨h.os, h.tape, h.output, h.size, fun k hk => h.block k (by omega) (by omega)⟩
theorem Mv.heap {bp : Nat} {a b : World} (h : Mv bp a b) {k : Nat} {ob : Obj} (hk : a.heap[k]? = some ob) (hne : k ≠ bp) : b.heap[k]? = some ob := by rw [h.block k (lt_of_heap hk) hne]; exact hk

theorem PS.c0 {w : World} {bp : Nat} {s : ByteArray} {i d : Nat} (h : PS w bp s i d) : w.cell? ⟨bp, 0, none⟩ = some (.string s) := by rw [cell_of_heap h]; rfl
theorem PS.c1 {w : World} {bp : Nat} {s : ByteArray} {i d : Nat} (h : PS w bp s i d) : w.cell? ⟨bp, 1, none⟩ = some (.int .i64 i) := by rw [cell_of_heap h]; rfl
theorem PS.c2 {w : World} {bp : Nat} {s : ByteArray} {i d : Nat} (h : PS w bp s i d) : w.cell? ⟨bp, 2, none⟩ = some (.int .i64 d) := by rw [cell_of_heap h]; rfl
theorem PS.c3 {w : World} {bp : Nat} {s : ByteArray} {i d : Nat} (h : PS w bp s i d) : w.cell? ⟨bp, 3, none⟩ = some (.bool false) := by rw [cell_of_heap h]; rfl
theorem PS.f1 {w : World} {bp : Nat} {s : ByteArray} {i d : Nat} (h : PS w bp s i d) : w.frozen? ⟨bp, 1, none⟩ = false := free_of_heap h 1
theorem PS.f2 {w : World} {bp : Nat} {s : ByteArray} {i d : Nat} (h : PS w bp s i d) : w.frozen? ⟨bp, 2, none⟩ = false := free_of_heap h 2
theorem PS.lt {w : World} {bp : Nat} {s : ByteArray} {i d : Nat} (h : PS w bp s i d) : bp < w.heap.size := lt_of_heap h
theorem PS.below {w w' : World} {bp : Nat} {s : ByteArray} {i d : Nat} (h : PS w bp s i d) (hb : Below w.heap.size w w') : PS w' bp s i d := heap_keep hb h
theorem PS.drewN {w : World} {bp : Nat} {s : ByteArray} {i d : Nat} (h : PS w bp s i d) (n : Nat) : PS (w.drewN n) bp s i d := h
theorem PS.drew {w : World} {bp : Nat} {s : ByteArray} {i d : Nat} (h : PS w bp s i d) : PS w.drew bp s i d := h
theorem PS.alloc {w : World} {bp : Nat} {s : ByteArray} {i d : Nat} (h : PS w bp s i d) (o : Obj) : PS (w.alloc o) bp s i d := h.below ((Below.refl _ _).alloc (Nat.le_refl _) o)
theorem heap_set_same {w : World} {k o : Nat} {cs : Array Value} {t : TypeId} {fz : Nat × Nat} {u : Value} (h : w.heap[k]? = some (.cells cs t fz)) : (w.setCell ⟨k, o, none⟩ u).heap[k]? = some (.cells (cs.setIfInBounds o u) t fz) := by
  simp only [World.setCell, Array.getElem?_modify, if_true, h]; simp
theorem PS.setI {w : World} {bp : Nat} {s : ByteArray} {i d : Nat} (h : PS w bp s i d) (j : Nat) (v : Int) (hv : v = j) : PS (w.setCell ⟨bp, 1, none⟩ (.int .i64 v)) bp s j d := by
  subst hv; exact heap_set_same h
theorem PS.setD {w : World} {bp : Nat} {s : ByteArray} {i d : Nat} (h : PS w bp s i d) (j : Nat) (v : Int) (hv : v = j) : PS (w.setCell ⟨bp, 2, none⟩ (.int .i64 v)) bp s i j := by
  subst hv; exact heap_set_same h

theorem PS.setOther {w : World} {bp : Nat} {s : ByteArray} {i d : Nat} (h : PS w bp s i d) {N o : Nat} (hne : bp ≠ N) (u : Value) : PS (w.setCell ⟨N, o, none⟩ u) bp s i d := by
  unfold PS; rw [Below.heap_setCell _ _ _ _ hne]; exact h

/-- The first cell of a block that has just been laid, behind a step of the parser. -/
theorem Mv.new0 {bp : Nat} {w w' : World} {u : Value} {t : TypeId} (h : Mv bp (w.alloc (.cells #[u] t)) w') (hbp : bp < w.heap.size) : w'.heap[w.heap.size]? = some (.cells #[u] t (0, 0)) :=
  h.heap (heap_alloc_new w _) (by omega)

/-- At position i of s stands l, and then r. -/
def At (s : ByteArray) (i : Nat) (r : List UInt8) : Prop := i ≤ s.size ∧ (L s).drop i = r

theorem At.len {s : ByteArray} {i : Nat} {r : List UInt8} (h : At s i r) : i + r.length = s.size := by
  have h1 := congrArg List.length h.2
  rw [List.length_drop, L_len] at h1; have := h.1; omega
theorem At.lt {s : ByteArray} {i : Nat} {c : UInt8} {r : List UInt8} (h : At s i (c :: r)) : i < s.size := by have := h.len; simp at this; omega
theorem At.get {s : ByteArray} {i : Nat} {c : UInt8} {r : List UInt8} (h : At s i (c :: r)) : s[i]'h.lt = c := by
  rw [L_get s i h.lt]
  have h2 := h.2
  rw [List.drop_eq_getElem_cons (by rw [L_len]; exact h.lt)] at h2
  exact (List.cons.inj h2).1
theorem At.next {s : ByteArray} {i : Nat} {c : UInt8} {r : List UInt8} (h : At s i (c :: r)) : At s (i + 1) r := by
  refine ⟨h.lt, ?_⟩
  have h2 := h.2
  rw [List.drop_eq_getElem_cons (by rw [L_len]; exact h.lt)] at h2
  exact (List.cons.inj h2).2
theorem At.skip {s : ByteArray} {i : Nat} (l : List UInt8) {r : List UInt8} (h : At s i (l ++ r)) : At s (i + l.length) r := by
  refine ⟨by have := h.len; simp at this; omega, ?_⟩
  rw [← List.drop_drop, h.2]; simp
theorem At.extract {s : ByteArray} {i : Nat} {l r : List UInt8} (h : At s i (l ++ r)) : L (s.extract i (i + l.length)) = l := by
  rw [L_extract, List.drop_take, h.2]; simp

theorem nil_append_bs (l : List UInt8) : (⟨#[]⟩ : ByteArray) ++ bs l = bs l := L_inj (by rw [L_append, L_bs]; rfl)
theorem bs_append_bs (l l' : List UInt8) : bs l ++ bs l' = bs (l ++ l') := L_inj (by rw [L_append, L_bs, L_bs, L_bs])

/-- s[i:i+n], as the walk asks it. -/
theorem slice_at {s : ByteArray} {i : Nat} {l r : List UInt8} (h : At s i (l ++ r)) : ∀ wx, (Instr.slice 9 (.string s) (some (.int .i64 (i : Int))) (some (.int .i64 ((i : Int) + l.length))) none).run Tryz.prog wx = .ok (.string (bs l)) wx := by
  intro wx
  have hlen := h.len
  simp at hlen
  have e : bs l = s.extract i (i + l.length) := by rw [← bs_L (s.extract _ _), h.extract]
  rw [run_slice_string wx 9 s .i64 .i64 _ _ Tryz.underlying9 (by omega) (by omega) (by omega), e]
  congr 3

end Go.Proofs.YteaapgijeehhfaaGreatDoor

namespace Go.Proofs.YteaapgijeehhfaaGreatDoor
open Go.RowKit

/-- What a step of the parser leaves: it returns v; it stands at j; nothing else that was there has changed. -/
def PPost (w : World) (bp : Nat) (s : ByteArray) (j d : Nat) (v : Value) (e : Ending) (w' : World) : Prop :=
  e = .returned v ∧ PS w' bp s j d ∧ Mv bp w w'

set_option maxRecDepth 100000 in
set_option maxHeartbeats 2000000 in
/-- No white space: nothing is done. -/
theorem skip_none (w : World) (bp : Nat) (s : ByteArray) (i d : Nat) (r : List UInt8) (hp : PS w bp s i d) (ha : At s i r) (_hs : s.size ≤ 140737488351232)
    (hr : ∀ c, r.head? = some c → c.toNat ≠ 32 ∧ c.toNat ≠ 9 ∧ c.toNat ≠ 10 ∧ c.toNat ≠ 12 ∧ c.toNat ≠ 13 ∧ c.toNat ≠ 47) :
    Calls Tryz.prog 70 #[.pointer (some ⟨bp, 0, none⟩)] w (PPost w bp s i d (.bool false)) := by
  have h0 := hp.c0
  have h1 := hp.c1
  have hle := ha.1
  have HP := Lib.hid hp
  cases r with
  | nil =>
    have hlen := ha.len
    simp only [List.length_nil, Nat.add_zero] at hlen
    have hlt : ¬ (i : Int) < (s.size : Int) := by omega
    clear hp hlen hr ha
    go_enter Tryz.func70, Tryz.ntmps70
    go_wp2_with fail
    refine wp_loop_rounds 1 ?_
    rw [rounds_succ]
    go_wp2_with fail
    go_ret
    exact ⟨rfl, HP.out, Mv.refl _ _⟩
  | cons c r =>
    have hlt := ha.lt
    have hg := ha.get
    obtain ⟨c1, c2, c3, c4, c5, c6⟩ := hr c rfl
    have e1 : ((s[i].toNat : Int) == 32) = false := by rw [hg]; simp; omega
    have e2 : ((s[i].toNat : Int) == 9) = false := by rw [hg]; simp; omega
    have e3 : ((s[i].toNat : Int) == 13) = false := by rw [hg]; simp; omega
    have e4 : ((s[i].toNat : Int) == 10) = false := by rw [hg]; simp; omega
    have e5 : ((s[i].toNat : Int) == 12) = false := by rw [hg]; simp; omega
    have e6 : ((s[i].toNat : Int) == 47) = false := by rw [hg]; simp; omega
    clear hg hr c1 c2 c3 c4 c5 c6 hp ha
    go_enter Tryz.func70, Tryz.ntmps70
    go_wp2_with fail
    refine wp_loop_rounds 1 ?_
    rw [rounds_succ]
    go_wp2_with fail
    go_ret
    exact ⟨rfl, HP.out, Mv.refl _ _⟩

set_option maxRecDepth 100000 in
set_option maxHeartbeats 2000000 in
/-- One blank. -/
theorem skip_one (w : World) (bp : Nat) (s : ByteArray) (i d : Nat) (c : UInt8) (r : List UInt8) (hp : PS w bp s i d) (ha : At s i (32 :: c :: r)) (hs : s.size ≤ 140737488351232)
    (hr : c.toNat ≠ 32 ∧ c.toNat ≠ 9 ∧ c.toNat ≠ 10 ∧ c.toNat ≠ 12 ∧ c.toNat ≠ 13 ∧ c.toNat ≠ 47) :
    Calls Tryz.prog 70 #[.pointer (some ⟨bp, 0, none⟩)] w (PPost w bp s (i + 1) d (.bool true)) := by
  have h0 := hp.c0
  have h1 := hp.c1
  have f1 := hp.f1
  have HP := Lib.hid hp
  have hlt := ha.next.lt
  have hlt0 := ha.lt
  have hg := ha.next.get
  have hg0 := ha.get
  obtain ⟨c1, c2, c3, c4, c5, c6⟩ := hr
  have e0 : ((s[i].toNat : Int) == 32) = true := by rw [hg0]; rfl
  have e1 : ((s[i + 1].toNat : Int) == 32) = false := by rw [hg]; simp; omega
  have e2 : ((s[i + 1].toNat : Int) == 9) = false := by rw [hg]; simp; omega
  have e3 : ((s[i + 1].toNat : Int) == 13) = false := by rw [hg]; simp; omega
  have e4 : ((s[i + 1].toNat : Int) == 10) = false := by rw [hg]; simp; omega
  have e5 : ((s[i + 1].toNat : Int) == 12) = false := by rw [hg]; simp; omega
  have e6 : ((s[i + 1].toNat : Int) == 47) = false := by rw [hg]; simp; omega
  clear hg hg0 c1 c2 c3 c4 c5 c6 hp ha
  go_enter Tryz.func70, Tryz.ntmps70
  go_wp2_with fail
  refine wp_loop_rounds 2 ?_
  rw [rounds_succ]
  go_wp2_with fail
  rw [rounds_succ]
  go_wp2_with fail
  go_ret
  exact ⟨rfl, HP.out.setI _ _ (by omega), (Mv.refl _ _).setCell _ _⟩

set_option maxRecDepth 100000 in
set_option maxHeartbeats 2000000 in
/-- '(' and what stands behind it. -/
theorem paren_open (w : World) (bp : Nat) (s : ByteArray) (i d : Nat) (c : UInt8) (r : List UInt8) (hp : PS w bp s i d) (ha : At s i (40 :: c :: r)) (hs : s.size ≤ 140737488351232)
    (hr : c.toNat ≠ 32 ∧ c.toNat ≠ 9 ∧ c.toNat ≠ 10 ∧ c.toNat ≠ 12 ∧ c.toNat ≠ 13 ∧ c.toNat ≠ 47) :
    Calls Tryz.prog 91 #[.pointer (some ⟨bp, 0, none⟩)] w (PPost w bp s (i + 1) d (.bool true)) := by
  have h0 := hp.c0
  have h1 := hp.c1
  have f1 := hp.f1
  have HP := Lib.hid hp
  have HA := Lib.hid ha.next
  have HR := Lib.hid hr
  have hlt : (i : Int) < (s.size : Int) := by have := ha.lt; omega
  have hg0 := ha.get
  have hlt0 := ha.lt
  have e0 : ((s[i].toNat : Int) == 40) = true := by rw [hg0]; rfl
  clear hg0 hr hp ha
  go_enter Tryz.func91, Tryz.ntmps91
  go_wp2_with fail
  go_quiet (fail)
  go_wp2_with (go_at_call 70; refine (skip_none _ bp s (i + 1) d (c :: r) (by exact (HP.out.drewN _).setI _ _ (by omega)) HA.out hs (by intro c' h; simp at h; subst h; exact HR.out)).mono ?_; rintro e w' ⟨rfl, hp2, hm2⟩)
  go_ret
  exact ⟨rfl, hp2, (((Mv.refl _ _).drewN _).setCell _ _).trans hm2⟩

set_option maxRecDepth 100000 in
set_option maxHeartbeats 2000000 in
/-- ')' right here. -/
theorem paren_close (w : World) (bp : Nat) (s : ByteArray) (i d : Nat) (r : List UInt8) (hp : PS w bp s i d) (ha : At s i (41 :: r)) (hs : s.size ≤ 140737488351232) :
    Calls Tryz.prog 92 #[.pointer (some ⟨bp, 0, none⟩)] w (PPost w bp s (i + 1) d (.bool true)) := by
  have h0 := hp.c0
  have h1 := hp.c1
  have HP := Lib.hid hp
  have HA := Lib.hid ha
  have hlt : (i : Int) < (s.size : Int) := by have := ha.lt; omega
  have hg0 := ha.get
  have hlt0 := ha.lt
  have e0 : ((s[i].toNat : Int) == 41) = true := by rw [hg0]; rfl
  clear hg0 hp ha
  go_enter Tryz.func92, Tryz.ntmps92
  go_wp2_with (go_at_call 70; refine (skip_none _ bp s i d (41 :: r) HP.out HA.out hs (by intro c' h; simp at h; subst h; decide)).mono ?_; rintro e w' ⟨rfl, hp2, hm2⟩)
  have k0 := hp2.c0
  have k1 := hp2.c1
  have k2 := hp2.f1
  have HP2 := Lib.hid hp2
  clear hp2 h0 h1
  go_quiet (fail)
  go_wp2_with fail
  go_ret
  exact ⟨rfl, (HP2.out.drewN _).setI _ _ (by omega), (hm2.drewN _).setCell _ _⟩

end Go.Proofs.YteaapgijeehhfaaGreatDoor

namespace Go.Proofs.YteaapgijeehhfaaGreatDoor
open Go.RowKit

/-- What may stand behind a name. -/
def stopC (c : UInt8) : Prop := c.toNat = 32 ∨ c.toNat = 33 ∨ c.toNat = 35 ∨ c.toNat = 36 ∨ c.toNat = 40 ∨ c.toNat = 41 ∨ c.toNat = 42 ∨ c.toNat = 44 ∨ c.toNat = 46 ∨ c.toNat = 58 ∨ c.toNat = 61 ∨ c.toNat = 91 ∨ c.toNat = 93 ∨ c.toNat = 94 ∨ c.toNat = 124 ∨ c.toNat = 126

set_option maxRecDepth 100000 in
set_option maxHeartbeats 2000000 in
theorem nameChar_yes (n : Int) (w : World) (h : (97 ≤ n ∧ n ≤ 122) ∨ (48 ≤ n ∧ n ≤ 57) ∨ n = 45) :
    Calls Tryz.prog 97 #[.int .u8 n] w fun e w' => e = .returned (.bool true) ∧ w = w' := by
  rcases h with ⟨h1, h2⟩ | ⟨h1, h2⟩ | rfl
  · have d2 : decide (n ≤ 122) = true := by simpa using h2
    go_enter Tryz.func97, Tryz.ntmps97
    go_wp2_with fail
    go_ret
    exact ⟨rfl, rfl⟩
  · have a1 : n < 97 := by omega
    have a2 : n < 65 := by omega
    have a3 : (n == 95) = false := by simp; omega
    have a4 : decide (127 < n) = false := by simp; omega
    have a5 : (n == 45) = false := by simp; omega
    have d2 : decide (n ≤ 57) = true := by simpa using h2
    go_enter Tryz.func97, Tryz.ntmps97
    go_wp2_with fail
    go_ret
    exact ⟨rfl, rfl⟩
  · go_enter Tryz.func97, Tryz.ntmps97
    go_wp2_with fail
    go_ret
    exact ⟨rfl, rfl⟩

set_option maxRecDepth 100000 in
set_option maxHeartbeats 4000000 in
theorem nameChar_no (n : Int) (w : World) (h : n = 32 ∨ n = 33 ∨ n = 35 ∨ n = 36 ∨ n = 40 ∨ n = 41 ∨ n = 42 ∨ n = 44 ∨ n = 46 ∨ n = 58 ∨ n = 61 ∨ n = 91 ∨ n = 93 ∨ n = 94 ∨ n = 124 ∨ n = 126) :
    Calls Tryz.prog 97 #[.int .u8 n] w fun e w' => e = .returned (.bool false) ∧ w = w' := by
  rcases h with rfl | rfl | rfl | rfl | rfl | rfl | rfl | rfl | rfl | rfl | rfl | rfl | rfl | rfl | rfl | rfl
  all_goals
    go_enter Tryz.func97, Tryz.ntmps97
    go_wp2_with fail
    go_ret
    exact ⟨rfl, rfl⟩

set_option maxRecDepth 100000 in
set_option maxHeartbeats 2000000 in
theorem nameStart_yes (n : Int) (w : World) (h1 : 97 ≤ n) (h2 : n ≤ 122) :
    Calls Tryz.prog 95 #[.int .u8 n] w fun e w' => e = .returned (.bool true) ∧ w = w' := by
  have d2 : decide (n ≤ 122) = true := by simpa using h2
  go_enter Tryz.func95, Tryz.ntmps95
  go_wp2_with fail
  go_ret
  exact ⟨rfl, rfl⟩

end Go.Proofs.YteaapgijeehhfaaGreatDoor
