/- Selectors of a name, of the root; compounds. -/
/- Compounds of selectors. -/
/- What lies below a node. -/
import Derived.Test.YteaapgijeehhfaaGreatDoorZ18
namespace Go.Proofs.YteaapgijeehhfaaGreatDoor
open Go.RowKit

theorem below_drewN {B : Nat} {w w' : World} (h : Below B w w') (n : Nat) : Below B w (w'.drewN n) := ⟨h.os, h.tape, h.output, h.size, h.block⟩
theorem below_alloc (w : World) (o : Obj) : Below w.heap.size w (w.alloc o) := (Below.refl _ _).alloc (Nat.le_refl _) _

def isEl (t : List Nk) (i : Nat) : Bool := decide (knd t i = 3)
def mTag (t : List Nk) (name : ByteArray) (i : Nat) : Bool := isEl t i && ((dat t i).toList == name.toList)

set_option maxRecDepth 100000 in
set_option maxHeartbeats 4000000 in
theorem tag_any (w : World) (bl : Nat → Nat) (t : List Nk) (name : ByteArray) (i : Nat) (hi : i < t.length) (ht : TreeAt w bl t) :
    Calls Tryz.prog 171 #[.agg #[.string name], .pointer (some ⟨bl i, 0, none⟩)] w fun e w' => e = .returned (.bool (mTag t name i)) ∧ Below w.heap.size w w' := by
  have ht2 := ht.keep ((Below.refl _ _).alloc (Nat.le_refl _) (.cells #[.string name] 153))
  have p5 := ht2.c5 hi
  have p6 := ht2.c6 hi
  unfold mTag isEl
  obtain ⟨r, hr⟩ : ∃ r, ((dat t i).toList == name.toList) = r := ⟨_, rfl⟩
  rw [hr]
  by_cases h3 : knd t i = 3
  · have e3 : (knd t i == 3) = true := by simp [h3]
    rw [show decide (knd t i = 3) = true by simp [h3]]
    clear ht ht2 h3
    go_enter Tryz.func171, Tryz.ntmps171
    go_wp2_with fail
    go_quiet (fail)
    go_wp2_with fail
    go_ret
    exact ⟨ret_bool (by simp), below_drewN (below_alloc w _) _⟩
  · have e3 : (knd t i == 3) = false := by simp [h3]
    rw [show decide (knd t i = 3) = false by simp [h3]]
    clear ht ht2 h3
    go_enter Tryz.func171, Tryz.ntmps171
    go_wp2_with fail
    go_quiet (fail)
    go_wp2_with fail
    go_ret
    exact ⟨ret_bool (by simp), below_drewN (below_alloc w _) _⟩

def mRoot (t : List Nk) (i : Nat) : Bool := isEl t i && (match par t i with | none => false | some p => decide (knd t p = 2))

set_option maxRecDepth 100000 in
set_option maxHeartbeats 4000000 in
theorem root_any (w : World) (bl : Nat → Nat) (t : List Nk) (i : Nat) (hi : i < t.length) (ht : TreeAt w bl t) :
    Calls Tryz.prog 262 #[.agg #[], .pointer (some ⟨bl i, 0, none⟩)] w fun e w' => e = .returned (.bool (mRoot t i)) ∧ Below w.heap.size w w' := by
  have ht2 := ht.keep ((Below.refl _ _).alloc (Nat.le_refl _) (.cells #[] 191))
  have p5 := ht.c5 hi
  have p0 := ht.c0 hi
  have q5 := ht2.c5 hi
  have q0 := ht2.c0 hi
  unfold mRoot isEl
  by_cases h3 : knd t i = 3
  · have e3 : (knd t i != 3) = false := by simp [h3]
    rw [show decide (knd t i = 3) = true by simp [h3]]
    cases ho : par t i with
    | none =>
      rw [ho] at p0 q0
      simp only [ptr, Option.map_none] at p0 q0
      clear ht ht2 h3 ho
      go_enter Tryz.func262, Tryz.ntmps262
      go_wp2_with fail
      go_ret
      first | exact ⟨rfl, Below.refl _ _⟩ | exact ⟨rfl, ((Below.refl _ _).alloc (Nat.le_refl _) _)⟩
    | some p =>
      have hp := ht.par_lt hi ho
      have r5 := ht.c5 (i := p) (by omega)
      have s5 := ht2.c5 (i := p) (by omega)
      rw [ho] at p0 q0
      simp only [ptr, Option.map_some] at p0 q0
      clear ht ht2 h3 ho
      go_enter Tryz.func262, Tryz.ntmps262
      go_wp2_with fail
      go_ret
      first | exact ⟨ret_bool (by by_cases h : knd t p = 2 <;> simp [h]), Below.refl _ _⟩ | exact ⟨ret_bool (by by_cases h : knd t p = 2 <;> simp [h]), ((Below.refl _ _).alloc (Nat.le_refl _) _)⟩
  · have e3 : (knd t i != 3) = true := by simpa using h3
    rw [show decide (knd t i = 3) = false by simp [h3]]
    simp only [Bool.false_and]
    clear ht ht2 h3
    go_enter Tryz.func262, Tryz.ntmps262
    go_wp2_with fail
    go_ret
    first | exact ⟨rfl, Below.refl _ _⟩ | exact ⟨rfl, ((Below.refl _ _).alloc (Nat.le_refl _) _)⟩

end Go.Proofs.YteaapgijeehhfaaGreatDoor

namespace Go.Proofs.YteaapgijeehhfaaGreatDoor
open Go.RowKit

theorem SelsRep.keep {n : Nat} {bl : Nat → Nat} {w w' : World} {v : Value} {ms : List (Nat → Bool)} (h : SelsRep n bl w v ms) (hb : Below w.heap.size w w') : SelsRep n bl w' v ms := by
  obtain ⟨a, cap, h1, h2, h3⟩ := h
  refine ⟨a, cap, h1, h2, fun k hk => ?_⟩
  obtain ⟨b, o, h4, u, h5, h6⟩ := h3 k hk
  exact ⟨b, o, h4, u, cell_keep hb h5, h6.keep hb⟩

def mComp (t : List Nk) (ms : List (Nat → Bool)) (i : Nat) : Bool := if ms.length = 0 then isEl t i else ms.all fun m => m i

set_option maxRecDepth 100000 in
set_option maxHeartbeats 4000000 in
theorem compound_any (w : World) (bl : Nat → Nat) (t : List Nk) (v : Value) (ms : List (Nat → Bool)) (i : Nat) (hi : i < t.length) (ht : TreeAt w bl t) (hv : SelsRep t.length bl w v ms) :
    Calls Tryz.prog 226 #[.agg #[v, .string ⟨#[]⟩], .pointer (some ⟨bl i, 0, none⟩)] w fun e w' => e = .returned (.bool (mComp t ms i)) ∧ Below w.heap.size w w' := by
  obtain ⟨a, cap, rfl, hlen, hk⟩ := hv
  have HK := Lib.hid hk
  have hba := below_alloc w (.cells #[.slice a ms.length cap, .string ⟨#[]⟩] 171)
  have q5 := (ht.keep hba).c5 hi
  have HB := Lib.hid hba
  clear hk ht hba
  unfold mComp
  by_cases h0 : ms.length = 0
  · rw [if_pos h0]
    have e0 : ((ms.length : Int) == 0) = true := by simp [h0]
    clear h0
    go_enter Tryz.func226, Tryz.ntmps226
    go_wp2_with fail
    go_ret
    exact ⟨ret_bool (by unfold isEl; by_cases h : knd t i = 3 <;> simp [h]), HB.out⟩
  · rw [if_neg h0]
    have e0 : ((ms.length : Int) == 0) = false := by
      apply Bool.eq_false_iff.2; intro h; exact h0 (by have := eq_of_beq h; omega)
    clear h0
    go_enter Tryz.func226, Tryz.ntmps226
    go_wp2_with fail
    go_loopw [19] (fun j wr => ∃ k : Nat, k ≤ ms.length ∧ j = .int .i64 k ∧ (ms.take k).all (fun m => m i) = true ∧ Below w.heap.size w wr) (fun j _ => ms.length - (intOf j).toNat)
    case atStart => exact ⟨0, Nat.zero_le _, rfl, rfl, HB.out⟩
    case round =>
      obtain ⟨k, hkl, rfl, hall, hb⟩ := hrel
      have HA := Lib.hid hall
      clear hall
      by_cases hlt : k < ms.length
      · obtain ⟨b, o, rfl, u, hc, T, x, F, rfl, hm, _, hen, hcal⟩ := HK.out k hlt
        have h0 := cell_keep hb hc
        have HC := Lib.hid (hcal i wr hi hb)
        clear hcal hc
        obtain ⟨r, hr⟩ : ∃ r, ms[k] i = r := ⟨_, rfl⟩
        rw [hr] at HC
        have HR := Lib.hid hr
        clear hr
        cases r
        · go_wp2_with fail
          refine HC.out.mono ?_
          rintro e w' ⟨rfl, hb3⟩
          have hb4 := hb.trans (hb3.mono hb.size)
          go_wp2_with fail
          go_ret
          exact ⟨ret_bool (by rw [lall_stop hlt (by simp [HR.out])]), hb4⟩
        · go_wp2_with fail
          refine HC.out.mono ?_
          rintro e w' ⟨rfl, hb3⟩
          have hb4 := hb.trans (hb3.mono hb.size)
          go_wp2_with fail
          go_roundw
          case rel => exact ⟨k + 1, by omega, by go_num, lall_take_succ hlt HA.out (by simp [HR.out]), hb4⟩
          case measure => simp [intOf]; omega
      · go_wp2_with fail
        go_ret
        exact ⟨ret_bool (by rw [lall_end hlt HA.out]), hb⟩

end Go.Proofs.YteaapgijeehhfaaGreatDoor

namespace Go.Proofs.YteaapgijeehhfaaGreatDoor
open Go.RowKit

/-- Whether f holds of one of a chain of children, or of what is below them. -/
def hasD (t : List Nk) (f : Nat → Bool) : Nat → Option Nat → Bool
  | 0, _ => false
  | _ + 1, none => false
  | k + 1, some c => (f c || (isEl t c && hasD t f k (fst t c))) || hasD t f k (nxt t c)
theorem hasD_none (t : List Nk) (f : Nat → Bool) (k : Nat) : hasD t f k none = false := by cases k <;> rfl

set_option maxRecDepth 100000 in
set_option maxHeartbeats 8000000 in
theorem hasDesc_any (bl : Nat → Nat) (t : List Nk) (v : Value) (ms : List (Nat → Bool)) : ∀ (K : Nat) (w : World) (i : Nat), i < t.length → TreeAt w bl t → SelsRep t.length bl w v ms → t.length ≤ K + 1 + i →
    Calls Tryz.prog 234 #[.pointer (some ⟨bl i, 0, none⟩), v] w fun e w' => e = .returned (.bool (hasD t (fun c => ms.any fun m => m c) K (fst t i))) ∧ Below w.heap.size w w' := by
  intro K
  induction K using Nat.strongRecOn with
  | _ K IH =>
    intro w i hi ht hv hKi
    have p1 := ht.c1 hi
    obtain ⟨a, cap, rfl, hlen, hk⟩ := hv
    have HV : Hid (SelsRep t.length bl w (.slice a ms.length cap) ms) := Lib.hid ⟨a, cap, rfl, hlen, hk⟩
    have HT := Lib.hid ht
    have HIH := Lib.hid IH
    obtain ⟨f, hf⟩ : ∃ f : Nat → Bool, f = fun c => ms.any fun m => m c := ⟨_, rfl⟩
    rw [← hf]
    have HF := Lib.hid hf
    clear hk ht IH hf
    go_enter Tryz.func234, Tryz.ntmps234
    go_wp2_with fail
    go_loopg [5] K (fun k u wr => ∃ o, u = ptr bl o ∧ k ≤ K ∧ (∀ c, o = some c → t.length ≤ k + c ∧ c < t.length) ∧ hasD t f k o = hasD t f K (fst t i) ∧ Below w.heap.size w wr)
    case atStart => exact ⟨_, rfl, Nat.le_refl _, fun c hc => by have := HT.out.fst_lt hi hc; omega, rfl, Below.refl _ _⟩
    case round =>
      obtain ⟨o, rfl, hk, ho, hch, hb⟩ := hrel
      cases o with
      | none =>
        rw [hasD_none] at hch
        have HCH := Lib.hid hch
        clear hch ho
        simp only [ptr, Option.map_none]
        go_wp2_with fail
        go_ret
        exact ⟨ret_bool HCH.out, hb⟩
      | some c =>
        obtain ⟨hck, hcl⟩ := ho c rfl
        obtain ⟨k, rfl⟩ : ∃ k, gk = k + 1 := ⟨gk - 1, by omega⟩
        have hcall := groupMatch_any t.length bl wr _ ms c hcl (HV.out.keep hb)
        rw [show (ms.any fun m => m c) = f c by rw [HF.out]] at hcall
        simp only [hasD] at hch
        obtain ⟨r, hr⟩ : ∃ r, f c = r := ⟨_, rfl⟩
        rw [hr] at hcall hch
        have HC := Lib.hid hcall
        clear hcall ho hr
        simp only [ptr, Option.map_some]
        cases r
        · simp only [Bool.false_or] at hch
          by_cases h3 : knd t c = 3
          · have e3 : (knd t c == 3) = true := by simp [h3]
            rw [show isEl t c = true by simp [isEl, h3], Bool.true_and] at hch
            obtain ⟨r2, hr2⟩ : ∃ r2, hasD t f k (fst t c) = r2 := ⟨_, rfl⟩
            rw [hr2] at hch
            have HR2 := Lib.hid hr2
            have HCH := Lib.hid hch
            clear hch h3 hr2
            have hrec : ∀ w', Below w.heap.size w w' → Calls Tryz.prog 234 #[.pointer (some ⟨bl c, 0, none⟩), .slice a ms.length cap] w' fun e w'' => e = .returned (.bool r2) ∧ Below w'.heap.size w' w'' := by
              intro w' hb'
              have h := HIH.out k (by omega) w' c hcl (HT.out.keep hb') (HV.out.keep hb') (by omega)
              rw [← HF.out, HR2.out] at h
              exact h
            have HREC := Lib.hid hrec
            clear hrec
            cases r2
            · go_wp2_with (first | (go_at_call 38; refine HC.out.mono ?_; rintro e w2 ⟨rfl, hb2⟩; have hb3 := below_step hb hb2; have q5 := (HT.out.keep hb3).c5 hcl; have q4 := (HT.out.keep hb3).c4 hcl; have HB3 := Lib.hid hb3; clear hb2 hb3) | (go_at_call 234; refine (HREC.out _ HB3.out).mono ?_; rintro e w3 ⟨rfl, hb4⟩; have hb5 := below_step HB3.out hb4; have s4 := (HT.out.keep hb5).c4 hcl; have HB5 := Lib.hid hb5; clear hb4 hb5))
              go_roundg k
              case measure => omega
              case rel => exact ⟨_, rfl, by omega, fun q hq => by have := HT.out.nxt_lt hcl hq; omega, by simpa using HCH.out, HB5.out⟩
            · go_wp2_with (first | (go_at_call 38; refine HC.out.mono ?_; rintro e w2 ⟨rfl, hb2⟩; have hb3 := below_step hb hb2; have q5 := (HT.out.keep hb3).c5 hcl; have q4 := (HT.out.keep hb3).c4 hcl; have HB3 := Lib.hid hb3; clear hb2 hb3) | (go_at_call 234; refine (HREC.out _ HB3.out).mono ?_; rintro e w3 ⟨rfl, hb4⟩; have hb5 := below_step HB3.out hb4; have HB5 := Lib.hid hb5; clear hb4 hb5))
              go_ret
              exact ⟨ret_bool (by simpa using HCH.out), HB5.out⟩
          · have e3 : (knd t c == 3) = false := by simp [h3]
            rw [show isEl t c = false by simp [isEl, h3], Bool.false_and, Bool.false_or] at hch
            have HCH := Lib.hid hch
            clear hch h3
            go_wp2_with (go_at_call 38; refine HC.out.mono ?_; rintro e w2 ⟨rfl, hb2⟩; have hb3 := below_step hb hb2; have q5 := (HT.out.keep hb3).c5 hcl; have q4 := (HT.out.keep hb3).c4 hcl; have HB3 := Lib.hid hb3; clear hb2 hb3)
            go_roundg k
            case measure => omega
            case rel => exact ⟨_, rfl, by omega, fun q hq => by have := HT.out.nxt_lt hcl hq; omega, HCH.out, HB3.out⟩
        · have HCH := Lib.hid hch
          clear hch
          go_wp2_with (go_at_call 38; refine HC.out.mono ?_; rintro e w2 ⟨rfl, hb2⟩; have hb3 := below_step hb hb2; have q5 := (HT.out.keep hb3).c5 hcl; have q4 := (HT.out.keep hb3).c4 hcl; have HB3 := Lib.hid hb3; clear hb2 hb3)
          go_ret
          exact ⟨ret_bool (by simpa using HCH.out), HB3.out⟩

end Go.Proofs.YteaapgijeehhfaaGreatDoor
