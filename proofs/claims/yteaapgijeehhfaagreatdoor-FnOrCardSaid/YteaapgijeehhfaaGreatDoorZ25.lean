/- The one that is the b-th of its kind. -/
/- The one that is the b-th of its kind, from the end. -/
/- Those that are a times a number, and b, of their kind. -/
import Derived.Test.YteaapgijeehhfaaGreatDoorZ19
import Derived.LaidEqlPtr
set_option linter.unusedSimpArgs false
set_option linter.unusedVariables false
namespace Go.Proofs.YteaapgijeehhfaaGreatDoor
open Go.RowKit

/-- Whether node c is counted for node i. -/
def cnts (t : List Nk) (ofT : Bool) (i c : Nat) : Bool := isEl t c && (!ofT || ((dat t c).toList == (dat t i).toList))
/-- Counting along a chain of nodes. -/
def smp (t : List Nk) (step : Nat → Option Nat) (ofT : Bool) (b : Int) (i : Nat) : Nat → Option Nat → Int → Bool
  | 0, _, _ => false
  | _ + 1, none, _ => false
  | k + 1, some c, n => if cnts t ofT i c then (if c = i then decide (n + 1 = b) else if b ≤ n + 1 then false else smp t step ofT b i k (step c) (n + 1)) else smp t step ofT b i k (step c) n
theorem smp_none (t : List Nk) (step : Nat → Option Nat) (ofT : Bool) (b : Int) (i k : Nat) (n : Int) : smp t step ofT b i k none n = false := by cases k <;> rfl

theorem cnts_no (t : List Nk) (ofT : Bool) (i c : Nat) (h : knd t c ≠ 3) : cnts t ofT i c = false := by simp [cnts, isEl, h]
theorem cnts_all (t : List Nk) (i c : Nat) (h : knd t c = 3) : cnts t false i c = true := by simp [cnts, isEl, h]
theorem cnts_of (t : List Nk) (i c : Nat) (r : Bool) (h : knd t c = 3) (hr : ((dat t c).toList == (dat t i).toList) = r) : cnts t true i c = r := by
  unfold cnts isEl; rw [hr, h]; cases r <;> rfl

theorem under95 : Tryz.prog.underlying 95 = some (.pointer 121) := by kernel_rfl
theorem info121 : (Tryz.prog.info? 121).map (·.size) = some 8 := by kernel_rfl
theorem nodeInfo : ∃ j, Tryz.prog.info? 121 = some j ∧ j.size ≠ 0 := by
  have h := info121
  cases hj : Tryz.prog.info? 121 with
  | none => rw [hj] at h; simp at h
  | some j => rw [hj] at h; simp at h; exact ⟨j, rfl, by omega⟩
/-- Two nodes' pointers are the same just where the nodes are. -/
theorem node_eql {w : World} {bl : Nat → Nat} {t : List Nk} {c i : Nat} (ht : TreeAt w bl t) (hc : c < t.length) (hi : i < t.length) (n : Nat) :
    (binOp .eql 95 (.pointer (some ⟨bl c, 0, none⟩)) (.pointer (some ⟨bl i, 0, none⟩))).run Tryz.prog (w.drewN n) = .ok (.bool (decide (c = i))) (w.drewN n) := by
  obtain ⟨j, hj, hs⟩ := nodeInfo
  by_cases h : c = i
  · subst h
    rw [run_eql_ptr_same _ _ under95 hj]; simp
  · obtain ⟨_, h1, _⟩ := ht.cell hc
    obtain ⟨_, h2, _⟩ := ht.cell hi
    have hne : bl c ≠ bl i := fun e => h (ht.inj c i hc hi e)
    rw [run_eql_ptr_other _ under95 hj hs (by intro e; exact hne (by injection e)) h1 h2]; simp [h]

def mSmp (t : List Nk) (last : Bool) (b : Int) (ofT : Bool) (i : Nat) : Bool :=
  isEl t i && (match par t i with | none => false | some p => if last then smp t (prv t) ofT b i t.length (lst t p) 0 else smp t (nxt t) ofT b i t.length (fst t p) 0)

set_option maxRecDepth 100000 in
set_option maxHeartbeats 8000000 in
theorem simpleNth_any (w : World) (bl : Nat → Nat) (t : List Nk) (b : Int) (ofT : Bool) (hb9 : -9 ≤ b ∧ b ≤ 9) (hlen : t.length ≤ 1000) (i : Nat) (hi : i < t.length) (ht : TreeAt w bl t) :
    Calls Tryz.prog 254 #[.int .i64 b, .bool ofT, .pointer (some ⟨bl i, 0, none⟩)] w fun e w' => e = .returned (.bool (mSmp t false b ofT i)) ∧ Below w.heap.size w w' := by
  have HT := Lib.hid ht
  have p5 := ht.c5 hi
  have p0 := ht.c0 hi
  unfold mSmp isEl
  by_cases h3 : knd t i = 3
  · have e3 : (knd t i != 3) = false := by simp [h3]
    rw [show decide (knd t i = 3) = true by simp [h3]]
    simp only [Bool.true_and]
    clear h3
    cases ho : par t i with
    | none =>
      rw [ho] at p0
      simp only [ptr, Option.map_none] at p0
      clear ht ho
      go_enter Tryz.func254, Tryz.ntmps254
      go_wp2_with fail
      go_ret
      exact ⟨rfl, Below.refl _ _⟩
    | some p =>
      have hp := ht.par_lt hi ho
      have hpl : p < t.length := by omega
      have r1 := ht.c1 hpl
      rw [ho] at p0
      simp only [ptr, Option.map_some] at p0
      obtain ⟨R, hR⟩ : ∃ R, smp t (nxt t) ofT b i t.length (fst t p) 0 = R := ⟨_, rfl⟩
      simp only [if_true, if_false, Bool.false_eq_true, hR]
      have HR := Lib.hid hR
      clear ht ho hR
      go_enter Tryz.func254, Tryz.ntmps254
      go_wp2_with fail
      go_loopg [8, 9] t.length (fun k nv v wr => ∃ o n, v = ptr bl o ∧ nv = .int .i64 n ∧ 0 ≤ n ∧ n + k ≤ t.length ∧ k ≤ t.length ∧ (∀ c, o = some c → t.length ≤ k + c ∧ c < t.length) ∧ smp t (nxt t) ofT b i k o n = R ∧ Below w.heap.size w wr)
      case atStart => exact ⟨_, 0, rfl, rfl, by omega, by omega, Nat.le_refl _, fun c hc => by have := HT.out.fst_lt hpl hc; omega, HR.out, Below.refl _ _⟩
      case round =>
        obtain ⟨o, n, rfl, rfl, hn0, hnk, hk, ho, hch, hb⟩ := hrel
        have HB := Lib.hid hb
        cases o with
        | none =>
          rw [smp_none] at hch
          have HCH := Lib.hid hch
          clear hch ho hb
          simp only [ptr, Option.map_none]
          go_wp2_with fail
          go_ret
          exact ⟨ret_bool HCH.out, HB.out⟩
        | some c =>
          have hci0 := ho c rfl
          have hcl : c < t.length := by omega
          obtain ⟨k, rfl⟩ : ∃ k, gk = k + 1 := ⟨gk - 1, by omega⟩
          have q5 := (HT.out.keep hb).c5 hcl
          have q6 := (HT.out.keep hb).c6 hcl
          have qs := (HT.out.keep hb).c4 hcl
          have i6 := (HT.out.keep hb).c6 hi
          have heq := node_eql (HT.out.keep hb) hcl hi
          simp only [smp] at hch
          simp only [ptr, Option.map_some]
          clear hb
          by_cases h3 : knd t c = 3
          · have e3c : (knd t c != 3) = false := by simp [h3]
            cases ofT
            · rw [cnts_all t i c h3] at hch
              simp only [if_true] at hch
              clear h3
              by_cases hci : c = i
              · rw [decide_eq_true hci] at heq
                rw [if_pos hci] at hch
                clear hci
                have HCH := Lib.hid hch
                clear hch ho
                go_wp2_with fail
                go_quiet (fail)
                go_wp2_with fail
                go_ret
                exact ⟨ret_bool (by rw [← HCH.out]; by_cases h : n + 1 = b <;> simp [h]), below_drewN HB.out _⟩
              · rw [decide_eq_false hci] at heq
                simp only [hci, if_false] at hch
                clear hci
                by_cases hbn : b ≤ n + 1
                · simp only [hbn, if_true] at hch
                  have HCH := Lib.hid hch
                  clear hch ho
                  go_wp2_with fail
                  go_quiet (fail)
                  go_wp2_with fail
                  go_ret
                  exact ⟨ret_bool HCH.out, below_drewN HB.out _⟩
                · simp only [hbn, if_false] at hch
                  have HCH := Lib.hid hch
                  clear hch ho
                  go_wp2_with fail
                  go_quiet (fail)
                  go_wp2_with fail
                  go_roundg k
                  case measure => omega
                  case rel => exact ⟨_, n + 1, rfl, by go_num, by omega, by omega, by omega, fun q hq => by have := HT.out.nxt_lt hcl hq; omega, HCH.out, below_drewN HB.out _⟩
            · obtain ⟨r, hr⟩ : ∃ r, ((dat t c).toList == (dat t i).toList) = r := ⟨_, rfl⟩
              rw [cnts_of t i c r h3 hr] at hch
              clear h3
              cases r
              · simp only [Bool.false_eq_true, if_false] at hch
                have HCH := Lib.hid hch
                clear hch ho
                go_wp2_with fail
                go_quiet (fail)
                go_wp2_with fail
                go_roundg k
                case measure => omega
                case rel => exact ⟨_, n, rfl, rfl, by omega, by omega, by omega, fun q hq => by have := HT.out.nxt_lt hcl hq; omega, HCH.out, below_drewN HB.out _⟩
              · simp only [if_true] at hch
                by_cases hci : c = i
                · rw [decide_eq_true hci] at heq
                  rw [if_pos hci] at hch
                  clear hci
                  have HCH := Lib.hid hch
                  clear hch ho
                  go_wp2_with fail
                  go_quiet (fail)
                  go_wp2_with fail
                  go_ret
                  exact ⟨ret_bool (by rw [← HCH.out]; by_cases h : n + 1 = b <;> simp [h]), below_drewN HB.out _⟩
                · rw [decide_eq_false hci] at heq
                  simp only [hci, if_false] at hch
                  clear hci
                  by_cases hbn : b ≤ n + 1
                  · simp only [hbn, if_true] at hch
                    have HCH := Lib.hid hch
                    clear hch ho
                    go_wp2_with fail
                    go_quiet (fail)
                    go_wp2_with fail
                    go_ret
                    exact ⟨ret_bool HCH.out, below_drewN HB.out _⟩
                  · simp only [hbn, if_false] at hch
                    have HCH := Lib.hid hch
                    clear hch ho
                    go_wp2_with fail
                    go_quiet (fail)
                    go_wp2_with fail
                    go_roundg k
                    case measure => omega
                    case rel => exact ⟨_, n + 1, rfl, by go_num, by omega, by omega, by omega, fun q hq => by have := HT.out.nxt_lt hcl hq; omega, HCH.out, below_drewN HB.out _⟩
          · have e3c : (knd t c != 3) = true := by simpa using h3
            rw [cnts_no t ofT i c h3] at hch
            simp only [Bool.false_eq_true, if_false] at hch
            clear h3
            have HCH := Lib.hid hch
            clear hch ho
            go_wp2_with fail
            go_quiet (fail)
            go_wp2_with fail
            go_roundg k
            case measure => omega
            case rel => exact ⟨_, n, rfl, rfl, by omega, by omega, by omega, fun q hq => by have := HT.out.nxt_lt hcl hq; omega, HCH.out, below_drewN HB.out _⟩
  · have e3 : (knd t i != 3) = true := by simpa using h3
    rw [show decide (knd t i = 3) = false by simp [h3]]
    simp only [Bool.false_and]
    clear h3 ht
    go_enter Tryz.func254, Tryz.ntmps254
    go_wp2_with fail
    go_ret
    exact ⟨rfl, Below.refl _ _⟩

end Go.Proofs.YteaapgijeehhfaaGreatDoor

namespace Go.Proofs.YteaapgijeehhfaaGreatDoor
open Go.RowKit

set_option maxRecDepth 100000 in
set_option maxHeartbeats 8000000 in
theorem simpleNthLast_any (w : World) (bl : Nat → Nat) (t : List Nk) (b : Int) (ofT : Bool) (hb9 : -9 ≤ b ∧ b ≤ 9) (hlen : t.length ≤ 1000) (i : Nat) (hi : i < t.length) (ht : TreeAt w bl t) :
    Calls Tryz.prog 253 #[.int .i64 b, .bool ofT, .pointer (some ⟨bl i, 0, none⟩)] w fun e w' => e = .returned (.bool (mSmp t true b ofT i)) ∧ Below w.heap.size w w' := by
  have HT := Lib.hid ht
  have p5 := ht.c5 hi
  have p0 := ht.c0 hi
  unfold mSmp isEl
  by_cases h3 : knd t i = 3
  · have e3 : (knd t i != 3) = false := by simp [h3]
    rw [show decide (knd t i = 3) = true by simp [h3]]
    simp only [Bool.true_and]
    clear h3
    cases ho : par t i with
    | none =>
      rw [ho] at p0
      simp only [ptr, Option.map_none] at p0
      clear ht ho
      go_enter Tryz.func253, Tryz.ntmps253
      go_wp2_with fail
      go_ret
      exact ⟨rfl, Below.refl _ _⟩
    | some p =>
      have hp := ht.par_lt hi ho
      have hpl : p < t.length := by omega
      have r1 := ht.c2 hpl
      rw [ho] at p0
      simp only [ptr, Option.map_some] at p0
      obtain ⟨R, hR⟩ : ∃ R, smp t (prv t) ofT b i t.length (lst t p) 0 = R := ⟨_, rfl⟩
      simp only [if_true, if_false, Bool.false_eq_true, hR]
      have HR := Lib.hid hR
      clear ht ho hR
      go_enter Tryz.func253, Tryz.ntmps253
      go_wp2_with fail
      go_loopg [8, 9] t.length (fun k nv v wr => ∃ o n, v = ptr bl o ∧ nv = .int .i64 n ∧ 0 ≤ n ∧ n + k ≤ t.length ∧ k ≤ t.length ∧ (∀ c, o = some c → c < k ∧ c < t.length) ∧ smp t (prv t) ofT b i k o n = R ∧ Below w.heap.size w wr)
      case atStart => exact ⟨_, 0, rfl, rfl, by omega, by omega, Nat.le_refl _, fun c hc => by have := HT.out.lst_lt hpl hc; omega, HR.out, Below.refl _ _⟩
      case round =>
        obtain ⟨o, n, rfl, rfl, hn0, hnk, hk, ho, hch, hb⟩ := hrel
        have HB := Lib.hid hb
        cases o with
        | none =>
          rw [smp_none] at hch
          have HCH := Lib.hid hch
          clear hch ho hb
          simp only [ptr, Option.map_none]
          go_wp2_with fail
          go_ret
          exact ⟨ret_bool HCH.out, HB.out⟩
        | some c =>
          have hci0 := ho c rfl
          have hcl : c < t.length := by omega
          obtain ⟨k, rfl⟩ : ∃ k, gk = k + 1 := ⟨gk - 1, by omega⟩
          have q5 := (HT.out.keep hb).c5 hcl
          have q6 := (HT.out.keep hb).c6 hcl
          have qs := (HT.out.keep hb).c3 hcl
          have i6 := (HT.out.keep hb).c6 hi
          have heq := node_eql (HT.out.keep hb) hcl hi
          simp only [smp] at hch
          simp only [ptr, Option.map_some]
          clear hb
          by_cases h3 : knd t c = 3
          · have e3c : (knd t c != 3) = false := by simp [h3]
            cases ofT
            · rw [cnts_all t i c h3] at hch
              simp only [if_true] at hch
              clear h3
              by_cases hci : c = i
              · rw [decide_eq_true hci] at heq
                rw [if_pos hci] at hch
                clear hci
                have HCH := Lib.hid hch
                clear hch ho
                go_wp2_with fail
                go_quiet (fail)
                go_wp2_with fail
                go_ret
                exact ⟨ret_bool (by rw [← HCH.out]; by_cases h : n + 1 = b <;> simp [h]), below_drewN HB.out _⟩
              · rw [decide_eq_false hci] at heq
                simp only [hci, if_false] at hch
                clear hci
                by_cases hbn : b ≤ n + 1
                · simp only [hbn, if_true] at hch
                  have HCH := Lib.hid hch
                  clear hch ho
                  go_wp2_with fail
                  go_quiet (fail)
                  go_wp2_with fail
                  go_ret
                  exact ⟨ret_bool HCH.out, below_drewN HB.out _⟩
                · simp only [hbn, if_false] at hch
                  have HCH := Lib.hid hch
                  clear hch ho
                  go_wp2_with fail
                  go_quiet (fail)
                  go_wp2_with fail
                  go_roundg k
                  case measure => omega
                  case rel => exact ⟨_, n + 1, rfl, by go_num, by omega, by omega, by omega, fun q hq => by have := HT.out.prv_lt hcl hq; omega, HCH.out, below_drewN HB.out _⟩
            · obtain ⟨r, hr⟩ : ∃ r, ((dat t c).toList == (dat t i).toList) = r := ⟨_, rfl⟩
              rw [cnts_of t i c r h3 hr] at hch
              clear h3
              cases r
              · simp only [Bool.false_eq_true, if_false] at hch
                have HCH := Lib.hid hch
                clear hch ho
                go_wp2_with fail
                go_quiet (fail)
                go_wp2_with fail
                go_roundg k
                case measure => omega
                case rel => exact ⟨_, n, rfl, rfl, by omega, by omega, by omega, fun q hq => by have := HT.out.prv_lt hcl hq; omega, HCH.out, below_drewN HB.out _⟩
              · simp only [if_true] at hch
                by_cases hci : c = i
                · rw [decide_eq_true hci] at heq
                  rw [if_pos hci] at hch
                  clear hci
                  have HCH := Lib.hid hch
                  clear hch ho
                  go_wp2_with fail
                  go_quiet (fail)
                  go_wp2_with fail
                  go_ret
                  exact ⟨ret_bool (by rw [← HCH.out]; by_cases h : n + 1 = b <;> simp [h]), below_drewN HB.out _⟩
                · rw [decide_eq_false hci] at heq
                  simp only [hci, if_false] at hch
                  clear hci
                  by_cases hbn : b ≤ n + 1
                  · simp only [hbn, if_true] at hch
                    have HCH := Lib.hid hch
                    clear hch ho
                    go_wp2_with fail
                    go_quiet (fail)
                    go_wp2_with fail
                    go_ret
                    exact ⟨ret_bool HCH.out, below_drewN HB.out _⟩
                  · simp only [hbn, if_false] at hch
                    have HCH := Lib.hid hch
                    clear hch ho
                    go_wp2_with fail
                    go_quiet (fail)
                    go_wp2_with fail
                    go_roundg k
                    case measure => omega
                    case rel => exact ⟨_, n + 1, rfl, by go_num, by omega, by omega, by omega, fun q hq => by have := HT.out.prv_lt hcl hq; omega, HCH.out, below_drewN HB.out _⟩
          · have e3c : (knd t c != 3) = true := by simpa using h3
            rw [cnts_no t ofT i c h3] at hch
            simp only [Bool.false_eq_true, if_false] at hch
            clear h3
            have HCH := Lib.hid hch
            clear hch ho
            go_wp2_with fail
            go_quiet (fail)
            go_wp2_with fail
            go_roundg k
            case measure => omega
            case rel => exact ⟨_, n, rfl, rfl, by omega, by omega, by omega, fun q hq => by have := HT.out.prv_lt hcl hq; omega, HCH.out, below_drewN HB.out _⟩
  · have e3 : (knd t i != 3) = true := by simpa using h3
    rw [show decide (knd t i = 3) = false by simp [h3]]
    simp only [Bool.false_and]
    clear h3 ht
    go_enter Tryz.func253, Tryz.ntmps253
    go_wp2_with fail
    go_ret
    exact ⟨rfl, Below.refl _ _⟩

end Go.Proofs.YteaapgijeehhfaaGreatDoor

namespace Go.Proofs.YteaapgijeehhfaaGreatDoor
open Go.RowKit

/-- How many are counted, and where node i stands among them. -/
def nthGo (t : List Nk) (ofT last : Bool) (i : Nat) : Nat → Option Nat → Int → Int → Int × Int
  | 0, _, n, p => (n, p)
  | _ + 1, none, n, p => (n, p)
  | k + 1, some c, n, p => if cnts t ofT i c then (if c = i then (if last then nthGo t ofT last i k (nxt t c) (n + 1) (n + 1) else (n + 1, n + 1)) else nthGo t ofT last i k (nxt t c) (n + 1) p) else nthGo t ofT last i k (nxt t c) n p
theorem nthGo_none (t : List Nk) (ofT last : Bool) (i k : Nat) (n p : Int) : nthGo t ofT last i k none n p = (n, p) := by cases k <;> rfl
def posOf (b : Int) (last : Bool) (x : Int × Int) : Int := (if last then x.1 - x.2 + 1 else x.2) - b
def nthAns (a b : Int) (last : Bool) (x : Int × Int) : Bool := if x.2 = -1 then false else ((posOf b last x).tmod a == 0) && decide (0 ≤ (posOf b last x).tdiv a)
def mNthC (t : List Nk) (a b : Int) (last ofT : Bool) (i : Nat) : Bool :=
  isEl t i && (match par t i with | none => false | some p => nthAns a b last (nthGo t ofT last i t.length (fst t p) 0 (-1)))

theorem tdiv_wrap (q a : Int) (h : -1000000 ≤ q ∧ q ≤ 1000000) : IntKind.wrap .i64 (q.tdiv a) = q.tdiv a := by
  have h1 : (q.tdiv a).natAbs ≤ q.natAbs := by rw [Int.natAbs_tdiv]; exact Nat.div_le_self _ _
  exact IntWalk.i64_in _ (by omega)

set_option maxRecDepth 100000 in
set_option maxHeartbeats 8000000 in
theorem nthChild_true (w : World) (bl : Nat → Nat) (t : List Nk) (a b : Int) (ofT : Bool) (ha0 : a ≠ 0) (ha9 : -9 ≤ a ∧ a ≤ 9) (hb9 : -9 ≤ b ∧ b ≤ 9) (hlen : t.length ≤ 1000) (i : Nat) (hi : i < t.length) (ht : TreeAt w bl t) :
    Calls Tryz.prog 255 #[.int .i64 a, .int .i64 b, .bool true, .bool ofT, .pointer (some ⟨bl i, 0, none⟩)] w fun e w' => e = .returned (.bool (mNthC t a b true ofT i)) ∧ Below w.heap.size w w' := by
  have HT := Lib.hid ht
  have p5 := ht.c5 hi
  have p0 := ht.c0 hi
  unfold mNthC isEl
  by_cases h3 : knd t i = 3
  · have e3 : (knd t i != 3) = false := by simp [h3]
    rw [show decide (knd t i = 3) = true by simp [h3]]
    simp only [Bool.true_and]
    clear h3
    cases ho : par t i with
    | none =>
      rw [ho] at p0
      simp only [ptr, Option.map_none] at p0
      clear ht ho
      go_enter Tryz.func255, Tryz.ntmps255
      go_wp2_with fail
      go_ret
      exact ⟨rfl, Below.refl _ _⟩
    | some pp =>
      have hp := ht.par_lt hi ho
      have hpl : pp < t.length := by omega
      have r1 := ht.c1 hpl
      rw [ho] at p0
      simp only [ptr, Option.map_some] at p0
      obtain ⟨R, hR⟩ : ∃ R, nthAns a b true (nthGo t ofT true i t.length (fst t pp) 0 (-1)) = R := ⟨_, rfl⟩
      simp only [hR]
      have HR := Lib.hid hR
      clear ht ho hR
      go_enter Tryz.func255, Tryz.ntmps255
      go_wp2_with fail
      go_loopg [12, 13, 14] t.length (fun k pv nv v wr => ∃ o n p, v = ptr bl o ∧ nv = .int .i64 n ∧ pv = .int .i64 p ∧ 0 ≤ n ∧ n + k ≤ t.length ∧ (p = -1 ∨ 1 ≤ p ∧ p ≤ n) ∧ k ≤ t.length ∧ (∀ c, o = some c → t.length ≤ k + c ∧ c < t.length) ∧ nthAns a b true (nthGo t ofT true i k o n p) = R ∧ Below w.heap.size w wr)
      case atStart => exact ⟨_, 0, -1, rfl, rfl, rfl, by omega, by omega, by omega, Nat.le_refl _, fun c hc => by have := HT.out.fst_lt hpl hc; omega, HR.out, Below.refl _ _⟩
      case round =>
        obtain ⟨o, n, p, rfl, rfl, rfl, hn0, hnk, hpn, hk, ho, hch, hb⟩ := hrel
        have HB := Lib.hid hb
        cases o with
        | none =>
          rw [nthGo_none] at hch
          clear hb
          simp only [ptr, Option.map_none]
          by_cases hpm : p = -1
          · subst hpm
            have HCH := Lib.hid hch
            clear hch ho
            go_wp2_with fail
            go_ret
            exact ⟨ret_bool (by rw [← HCH.out]; rfl), HB.out⟩
          · have hp2 : (p == -1) = false := by simp; omega
            have hw := tdiv_wrap (n - p + 1 - b) a (by omega)
            have ea0 : (a == 0) = false := by simpa using ha0
            have e0 : nthAns a b true (n, p) = (((n - p + 1 - b).tmod a == 0) && decide (0 ≤ (n - p + 1 - b).tdiv a)) := by unfold nthAns posOf; rw [if_neg (show ¬ p = -1 by omega)]; rfl
            rw [e0] at hch
            clear e0
            obtain ⟨r, hr⟩ : ∃ r, ((n - p + 1 - b).tmod a == 0) = r := ⟨_, rfl⟩
            rw [hr] at hch
            have HCH := Lib.hid hch
            clear hch ho
            cases r
            · go_wp2_with fail
              go_ret
              exact ⟨ret_bool HCH.out, HB.out⟩
            · go_wp2_with fail
              go_ret
              exact ⟨ret_bool (by rw [← HCH.out]; simp), HB.out⟩
        | some c =>
          have hci0 := ho c rfl
          have hcl : c < t.length := by omega
          obtain ⟨k, rfl⟩ : ∃ k, gk = k + 1 := ⟨gk - 1, by omega⟩
          have q5 := (HT.out.keep hb).c5 hcl
          have q6 := (HT.out.keep hb).c6 hcl
          have qs := (HT.out.keep hb).c4 hcl
          have i6 := (HT.out.keep hb).c6 hi
          have heq := node_eql (HT.out.keep hb) hcl hi
          simp only [nthGo] at hch
          simp only [ptr, Option.map_some]
          clear hb
          by_cases h3 : knd t c = 3
          · have e3c : (knd t c != 3) = false := by simp [h3]
            cases ofT
            · rw [cnts_all t i c h3] at hch
              simp only [if_true] at hch
              clear h3
              by_cases hci : c = i
              · rw [decide_eq_true hci] at heq
                rw [if_pos hci] at hch
                clear hci
                have HCH := Lib.hid hch
                clear hch ho
                go_wp2_with fail
                go_quiet (fail)
                go_wp2_with fail
                go_roundg k
                case measure => omega
                case rel => exact ⟨_, n + 1, n + 1, rfl, by go_num, by go_num, by omega, by omega, by omega, by omega, fun q hq => by have := HT.out.nxt_lt hcl hq; omega, HCH.out, below_drewN HB.out _⟩
              · rw [decide_eq_false hci] at heq
                simp only [hci, if_false] at hch
                clear hci
                have HCH := Lib.hid hch
                clear hch ho
                go_wp2_with fail
                go_quiet (fail)
                go_wp2_with fail
                go_roundg k
                case measure => omega
                case rel => exact ⟨_, n + 1, p, rfl, by go_num, rfl, by omega, by omega, by omega, by omega, fun q hq => by have := HT.out.nxt_lt hcl hq; omega, HCH.out, below_drewN HB.out _⟩
            · obtain ⟨r, hr⟩ : ∃ r, ((dat t c).toList == (dat t i).toList) = r := ⟨_, rfl⟩
              rw [cnts_of t i c r h3 hr] at hch
              clear h3
              cases r
              · simp only [Bool.false_eq_true, if_false] at hch
                have HCH := Lib.hid hch
                clear hch ho
                go_wp2_with fail
                go_quiet (fail)
                go_wp2_with fail
                go_roundg k
                case measure => omega
                case rel => exact ⟨_, n, p, rfl, rfl, rfl, by omega, by omega, by omega, by omega, fun q hq => by have := HT.out.nxt_lt hcl hq; omega, HCH.out, below_drewN HB.out _⟩
              · simp only [if_true] at hch
                by_cases hci : c = i
                · rw [decide_eq_true hci] at heq
                  rw [if_pos hci] at hch
                  clear hci
                  have HCH := Lib.hid hch
                  clear hch ho
                  go_wp2_with fail
                  go_quiet (fail)
                  go_wp2_with fail
                  go_roundg k
                  case measure => omega
                  case rel => exact ⟨_, n + 1, n + 1, rfl, by go_num, by go_num, by omega, by omega, by omega, by omega, fun q hq => by have := HT.out.nxt_lt hcl hq; omega, HCH.out, below_drewN HB.out _⟩
                · rw [decide_eq_false hci] at heq
                  simp only [hci, if_false] at hch
                  clear hci
                  have HCH := Lib.hid hch
                  clear hch ho
                  go_wp2_with fail
                  go_quiet (fail)
                  go_wp2_with fail
                  go_roundg k
                  case measure => omega
                  case rel => exact ⟨_, n + 1, p, rfl, by go_num, rfl, by omega, by omega, by omega, by omega, fun q hq => by have := HT.out.nxt_lt hcl hq; omega, HCH.out, below_drewN HB.out _⟩
          · have e3c : (knd t c != 3) = true := by simpa using h3
            rw [cnts_no t ofT i c h3] at hch
            simp only [Bool.false_eq_true, if_false] at hch
            clear h3
            have HCH := Lib.hid hch
            clear hch ho
            go_wp2_with fail
            go_quiet (fail)
            go_wp2_with fail
            go_roundg k
            case measure => omega
            case rel => exact ⟨_, n, p, rfl, rfl, rfl, by omega, by omega, by omega, by omega, fun q hq => by have := HT.out.nxt_lt hcl hq; omega, HCH.out, below_drewN HB.out _⟩
  · have e3 : (knd t i != 3) = true := by simpa using h3
    rw [show decide (knd t i = 3) = false by simp [h3]]
    simp only [Bool.false_and]
    clear h3 ht
    go_enter Tryz.func255, Tryz.ntmps255
    go_wp2_with fail
    go_ret
    exact ⟨rfl, Below.refl _ _⟩

end Go.Proofs.YteaapgijeehhfaaGreatDoor
