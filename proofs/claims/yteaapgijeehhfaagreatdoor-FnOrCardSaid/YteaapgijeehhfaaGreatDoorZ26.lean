/- Those that are a times a number, and b, of their kind, from the front. -/
/- Selectors that count. -/
/- What parsed selectors answer. -/
import Derived.Test.YteaapgijeehhfaaGreatDoorZ25
import Derived.Test.YteaapgijeehhfaaGreatDoorZ24
set_option linter.unusedSimpArgs false
set_option linter.unusedVariables false
namespace Go.Proofs.YteaapgijeehhfaaGreatDoor
open Go.RowKit

set_option maxRecDepth 100000 in
set_option maxHeartbeats 8000000 in
theorem nthChild_false (w : World) (bl : Nat → Nat) (t : List Nk) (a b : Int) (ofT : Bool) (ha0 : a ≠ 0) (ha9 : -9 ≤ a ∧ a ≤ 9) (hb9 : -9 ≤ b ∧ b ≤ 9) (hlen : t.length ≤ 1000) (i : Nat) (hi : i < t.length) (ht : TreeAt w bl t) :
    Calls Tryz.prog 255 #[.int .i64 a, .int .i64 b, .bool false, .bool ofT, .pointer (some ⟨bl i, 0, none⟩)] w fun e w' => e = .returned (.bool (mNthC t a b false ofT i)) ∧ Below w.heap.size w w' := by
  have HT := Lib.hid ht
  have p5 := ht.c5 hi
  have p0 := ht.c0 hi
  unfold mNthC isEl
  by_cases h3 : knd t i = 3
  · have e3 : (knd t i != 3) = false := by simp [h3]
    rw [show decide (knd t i = 3) = true by simp [h3]]
    simp only [Bool.true_and]
    clear h3
    cases ho : par t i with
    | none =>
      rw [ho] at p0
      simp only [ptr, Option.map_none] at p0
      clear ht ho
      go_enter Tryz.func255, Tryz.ntmps255
      go_wp2_with fail
      go_ret
      exact ⟨rfl, Below.refl _ _⟩
    | some pp =>
      have hp := ht.par_lt hi ho
      have hpl : pp < t.length := by omega
      have r1 := ht.c1 hpl
      rw [ho] at p0
      simp only [ptr, Option.map_some] at p0
      obtain ⟨R, hR⟩ : ∃ R, nthAns a b false (nthGo t ofT false i t.length (fst t pp) 0 (-1)) = R := ⟨_, rfl⟩
      simp only [hR]
      have HR := Lib.hid hR
      clear ht ho hR
      go_enter Tryz.func255, Tryz.ntmps255
      go_wp2_with fail
      go_loopg [12, 13, 14] t.length (fun k pv nv v wr => ∃ o n p, v = ptr bl o ∧ nv = .int .i64 n ∧ pv = .int .i64 p ∧ 0 ≤ n ∧ n + k ≤ t.length ∧ (p = -1 ∨ 1 ≤ p ∧ p ≤ n) ∧ k ≤ t.length ∧ (∀ c, o = some c → t.length ≤ k + c ∧ c < t.length) ∧ nthAns a b false (nthGo t ofT false i k o n p) = R ∧ Below w.heap.size w wr)
      case atStart => exact ⟨_, 0, -1, rfl, rfl, rfl, by omega, by omega, by omega, Nat.le_refl _, fun c hc => by have := HT.out.fst_lt hpl hc; omega, HR.out, Below.refl _ _⟩
      case round =>
        obtain ⟨o, n, p, rfl, rfl, rfl, hn0, hnk, hpn, hk, ho, hch, hb⟩ := hrel
        have HB := Lib.hid hb
        cases o with
        | none =>
          rw [nthGo_none] at hch
          clear hb
          simp only [ptr, Option.map_none]
          by_cases hpm : p = -1
          · subst hpm
            have HCH := Lib.hid hch
            clear hch ho
            go_wp2_with fail
            go_ret
            exact ⟨ret_bool (by rw [← HCH.out]; rfl), HB.out⟩
          · have hp2 : (p == -1) = false := by simp; omega
            have hw := tdiv_wrap (p - b) a (by omega)
            have ea0 : (a == 0) = false := by simpa using ha0
            have e0 : nthAns a b false (n, p) = (((p - b).tmod a == 0) && decide (0 ≤ (p - b).tdiv a)) := by unfold nthAns posOf; rw [if_neg (show ¬ p = -1 by omega)]; rfl
            rw [e0] at hch
            clear e0
            obtain ⟨r, hr⟩ : ∃ r, ((p - b).tmod a == 0) = r := ⟨_, rfl⟩
            rw [hr] at hch
            have HCH := Lib.hid hch
            clear hch ho
            cases r
            · go_wp2_with fail
              go_ret
              exact ⟨ret_bool HCH.out, HB.out⟩
            · go_wp2_with fail
              go_ret
              exact ⟨ret_bool (by rw [← HCH.out]; simp), HB.out⟩
        | some c =>
          have hci0 := ho c rfl
          have hcl : c < t.length := by omega
          obtain ⟨k, rfl⟩ : ∃ k, gk = k + 1 := ⟨gk - 1, by omega⟩
          have q5 := (HT.out.keep hb).c5 hcl
          have q6 := (HT.out.keep hb).c6 hcl
          have qs := (HT.out.keep hb).c4 hcl
          have i6 := (HT.out.keep hb).c6 hi
          have heq := node_eql (HT.out.keep hb) hcl hi
          simp only [nthGo] at hch
          simp only [ptr, Option.map_some]
          clear hb
          by_cases h3 : knd t c = 3
          · have e3c : (knd t c != 3) = false := by simp [h3]
            cases ofT
            · rw [cnts_all t i c h3] at hch
              simp only [if_true] at hch
              clear h3
              by_cases hci : c = i
              · rw [decide_eq_true hci] at heq
                rw [if_pos hci] at hch
                clear hci
                simp only [Bool.false_eq_true, if_false] at hch
                have hp2 : ((n + 1) == -1) = false := by simp; omega
                have hw := tdiv_wrap ((n + 1) - b) a (by omega)
                have ea0 : (a == 0) = false := by simpa using ha0
                have e0 : nthAns a b false ((n + 1), (n + 1)) = ((((n + 1) - b).tmod a == 0) && decide (0 ≤ ((n + 1) - b).tdiv a)) := by unfold nthAns posOf; rw [if_neg (show ¬ (n + 1) = -1 by omega)]; rfl
                rw [e0] at hch
                clear e0
                obtain ⟨r, hr⟩ : ∃ r, (((n + 1) - b).tmod a == 0) = r := ⟨_, rfl⟩
                rw [hr] at hch
                have HCH := Lib.hid hch
                clear hch ho
                cases r
                · go_wp2_with fail
                  go_quiet (fail)
                  go_wp2_with fail
                  go_ret
                  exact ⟨ret_bool HCH.out, below_drewN HB.out _⟩
                · go_wp2_with fail
                  go_quiet (fail)
                  go_wp2_with fail
                  go_ret
                  exact ⟨ret_bool (by rw [← HCH.out]; simp), below_drewN HB.out _⟩
              · rw [decide_eq_false hci] at heq
                simp only [hci, if_false] at hch
                clear hci
                have HCH := Lib.hid hch
                clear hch ho
                go_wp2_with fail
                go_quiet (fail)
                go_wp2_with fail
                go_roundg k
                case measure => omega
                case rel => exact ⟨_, n + 1, p, rfl, by go_num, rfl, by omega, by omega, by omega, by omega, fun q hq => by have := HT.out.nxt_lt hcl hq; omega, HCH.out, below_drewN HB.out _⟩
            · obtain ⟨r, hr⟩ : ∃ r, ((dat t c).toList == (dat t i).toList) = r := ⟨_, rfl⟩
              rw [cnts_of t i c r h3 hr] at hch
              clear h3
              cases r
              · simp only [Bool.false_eq_true, if_false] at hch
                have HCH := Lib.hid hch
                clear hch ho
                go_wp2_with fail
                go_quiet (fail)
                go_wp2_with fail
                go_roundg k
                case measure => omega
                case rel => exact ⟨_, n, p, rfl, rfl, rfl, by omega, by omega, by omega, by omega, fun q hq => by have := HT.out.nxt_lt hcl hq; omega, HCH.out, below_drewN HB.out _⟩
              · simp only [if_true] at hch
                by_cases hci : c = i
                · rw [decide_eq_true hci] at heq
                  rw [if_pos hci] at hch
                  clear hci
                  simp only [Bool.false_eq_true, if_false] at hch
                  have hp2 : ((n + 1) == -1) = false := by simp; omega
                  have hw := tdiv_wrap ((n + 1) - b) a (by omega)
                  have ea0 : (a == 0) = false := by simpa using ha0
                  have e0 : nthAns a b false ((n + 1), (n + 1)) = ((((n + 1) - b).tmod a == 0) && decide (0 ≤ ((n + 1) - b).tdiv a)) := by unfold nthAns posOf; rw [if_neg (show ¬ (n + 1) = -1 by omega)]; rfl
                  rw [e0] at hch
                  clear e0
                  obtain ⟨r, hr⟩ : ∃ r, (((n + 1) - b).tmod a == 0) = r := ⟨_, rfl⟩
                  rw [hr] at hch
                  have HCH := Lib.hid hch
                  clear hch ho
                  cases r
                  · go_wp2_with fail
                    go_quiet (fail)
                    go_wp2_with fail
                    go_ret
                    exact ⟨ret_bool HCH.out, below_drewN HB.out _⟩
                  · go_wp2_with fail
                    go_quiet (fail)
                    go_wp2_with fail
                    go_ret
                    exact ⟨ret_bool (by rw [← HCH.out]; simp), below_drewN HB.out _⟩
                · rw [decide_eq_false hci] at heq
                  simp only [hci, if_false] at hch
                  clear hci
                  have HCH := Lib.hid hch
                  clear hch ho
                  go_wp2_with fail
                  go_quiet (fail)
                  go_wp2_with fail
                  go_roundg k
                  case measure => omega
                  case rel => exact ⟨_, n + 1, p, rfl, by go_num, rfl, by omega, by omega, by omega, by omega, fun q hq => by have := HT.out.nxt_lt hcl hq; omega, HCH.out, below_drewN HB.out _⟩
          · have e3c : (knd t c != 3) = true := by simpa using h3
            rw [cnts_no t ofT i c h3] at hch
            simp only [Bool.false_eq_true, if_false] at hch
            clear h3
            have HCH := Lib.hid hch
            clear hch ho
            go_wp2_with fail
            go_quiet (fail)
            go_wp2_with fail
            go_roundg k
            case measure => omega
            case rel => exact ⟨_, n, p, rfl, rfl, rfl, by omega, by omega, by omega, by omega, fun q hq => by have := HT.out.nxt_lt hcl hq; omega, HCH.out, below_drewN HB.out _⟩
  · have e3 : (knd t i != 3) = true := by simpa using h3
    rw [show decide (knd t i = 3) = false by simp [h3]]
    simp only [Bool.false_and]
    clear h3 ht
    go_enter Tryz.func255, Tryz.ntmps255
    go_wp2_with fail
    go_ret
    exact ⟨rfl, Below.refl _ _⟩

end Go.Proofs.YteaapgijeehhfaaGreatDoor

namespace Go.Proofs.YteaapgijeehhfaaGreatDoor
open Go.RowKit

def mNth (t : List Nk) (a b : Int) (last ofT : Bool) (i : Nat) : Bool := if a = 0 then mSmp t last b ofT i else mNthC t a b last ofT i

theorem mNth_el {t : List Nk} {a b : Int} {last ofT : Bool} {i : Nat} (h : mNth t a b last ofT i = true) : isEl t i = true := by
  unfold mNth at h
  split at h
  · unfold mSmp at h; rw [Bool.and_eq_true] at h; exact h.1
  · unfold mNthC at h; rw [Bool.and_eq_true] at h; exact h.1

set_option maxRecDepth 100000 in
set_option maxHeartbeats 4000000 in
theorem nth_any (w : World) (bl : Nat → Nat) (t : List Nk) (a b : Int) (last ofT : Bool) (ha9 : -9 ≤ a ∧ a ≤ 9) (hb9 : -9 ≤ b ∧ b ≤ 9) (hlen : t.length ≤ 1000) (i : Nat) (hi : i < t.length) (ht : TreeAt w bl t) :
    Calls Tryz.prog 251 #[.agg #[.int .i64 a, .int .i64 b, .bool last, .bool ofT], .pointer (some ⟨bl i, 0, none⟩)] w fun e w' => e = .returned (.bool (mNth t a b last ofT i)) ∧ Below w.heap.size w w' := by
  have hba := below_alloc w (.cells #[.int .i64 a, .int .i64 b, .bool last, .bool ofT] 185)
  have HT := Lib.hid (ht.keep hba)
  have HB := Lib.hid hba
  clear ht hba
  unfold mNth
  by_cases h0 : a = 0
  · subst h0
    simp only [if_true]
    cases last
    · go_enter Tryz.func251, Tryz.ntmps251
      go_wp2_with (go_at_call 254; refine (simpleNth_any _ bl t b ofT hb9 hlen i hi HT.out).mono ?_; rintro e w2 ⟨rfl, hb2⟩)
      go_ret
      exact ⟨rfl, below_step HB.out hb2⟩
    · go_enter Tryz.func251, Tryz.ntmps251
      go_wp2_with (go_at_call 253; refine (simpleNthLast_any _ bl t b ofT hb9 hlen i hi HT.out).mono ?_; rintro e w2 ⟨rfl, hb2⟩)
      go_ret
      exact ⟨rfl, below_step HB.out hb2⟩
  · have e0 : (a == 0) = false := by simpa using h0
    rw [if_neg h0]
    cases last
    · go_enter Tryz.func251, Tryz.ntmps251
      go_wp2_with (go_at_call 255; refine (nthChild_false _ bl t a b ofT h0 ha9 hb9 hlen i hi HT.out).mono ?_; rintro e w2 ⟨rfl, hb2⟩)
      go_ret
      exact ⟨rfl, below_step HB.out hb2⟩
    · go_enter Tryz.func251, Tryz.ntmps251
      go_wp2_with (go_at_call 255; refine (nthChild_true _ bl t a b ofT h0 ha9 hb9 hlen i hi HT.out).mono ?_; rintro e w2 ⟨rfl, hb2⟩)
      go_ret
      exact ⟨rfl, below_step HB.out hb2⟩

end Go.Proofs.YteaapgijeehhfaaGreatDoor

namespace Go.Proofs.YteaapgijeehhfaaGreatDoor
open Go.RowKit

/-- A simple selector's meaning; mg: that of groups within. -/
def mSm (T : Nat → Int) (t : List Nk) (mg : Group → List (Nat → Bool)) (s : Simple) : Nat → Bool :=
  if s.kind = 0 then mTag t s.name
  else if s.kind = 2 then mId t s.name
  else if s.kind = 3 then mClass t s.name
  else if s.kind = 11 then mNth t s.a s.b s.last s.ofType
  else if s.kind = 12 then mEmpty T t
  else if s.kind = 13 then mRoot t
  else if s.kind = 14 then mNot t (mg s.subs)
  else if s.kind = 15 then mHas t (mg s.subs)
  else mAttr T t s.kind s.name s.value s.fold
def mPs (T : Nat → Int) (t : List Nk) (mg : Group → List (Nat → Bool)) (l : List Simple) : Nat → Bool :=
  match l with
  | [s] => mSm T t mg s
  | l => mComp t (l.map (mSm T t mg))
def mCxR (T : Nat → Int) (t : List Nk) (mg : Group → List (Nat → Bool)) : List Compound → Nat → Bool
  | [] => fun _ => false
  | [p] => mPs T t mg (p.2.filter notAny)
  | p :: q :: l => joinOf t (mCxR T t mg (q :: l)) (mPs T t mg (p.2.filter notAny)) (joinB p.1)
def mCx (T : Nat → Int) (t : List Nk) (mg : Group → List (Nat → Bool)) (c : Complex) : Nat → Bool := mCxR T t mg c.reverse
def mG (T : Nat → Int) (t : List Nk) : Nat → Group → List (Nat → Bool)
  | 0, _ => []
  | d + 1, g => g.map (mCx T t (mG T t d))

theorem asc_name {s : ByteArray} (h : nameL (L s) = true) : asc s := by
  simp only [nameL, Bool.and_eq_true, List.all_eq_true, decide_eq_true_eq] at h
  refine ⟨fun c hc => ?_, by have := h.2; rw [L_len] at this; omega⟩
  have := h.1.1 c hc
  simp only [nch, decide_eq_true_eq] at this
  omega
theorem asc_value {s : ByteArray} (h : valueL (L s) = true) : asc s := by
  simp only [valueL, Bool.and_eq_true, List.all_eq_true, decide_eq_true_eq] at h
  refine ⟨fun c hc => ?_, by have := h.2; rw [L_len] at this; omega⟩
  have := h.1.1 c hc
  simp only [vch, decide_eq_true_eq] at this
  omega

theorem meth153 (x : Value) (w : World) : (method 421 153 x "Match").run Tryz.prog w = .ok (171, x) w := by kernel_rfl
theorem nila153 (x : Value) (w : World) : (nilAhead 421 153 x "Match").run Tryz.prog w = .ok (some false) w := by kernel_rfl
theorem ent171 (args : Array Value) (w : World) : (callFunc 171 args).run Tryz.prog w = .ok (.enter 171 args) w := by kernel_rfl
theorem meth157 (x : Value) (w : World) : (method 421 157 x "Match").run Tryz.prog w = .ok (175, x) w := by kernel_rfl
theorem nila157 (x : Value) (w : World) : (nilAhead 421 157 x "Match").run Tryz.prog w = .ok (some false) w := by kernel_rfl
theorem ent175 (args : Array Value) (w : World) : (callFunc 175 args).run Tryz.prog w = .ok (.enter 175 args) w := by kernel_rfl
theorem meth161 (x : Value) (w : World) : (method 421 161 x "Match").run Tryz.prog w = .ok (185, x) w := by kernel_rfl
theorem nila161 (x : Value) (w : World) : (nilAhead 421 161 x "Match").run Tryz.prog w = .ok (some false) w := by kernel_rfl
theorem ent185 (args : Array Value) (w : World) : (callFunc 185 args).run Tryz.prog w = .ok (.enter 185 args) w := by kernel_rfl
theorem meth165 (x : Value) (w : World) : (method 421 165 x "Match").run Tryz.prog w = .ok (195, x) w := by kernel_rfl
theorem nila165 (x : Value) (w : World) : (nilAhead 421 165 x "Match").run Tryz.prog w = .ok (some false) w := by kernel_rfl
theorem ent195 (args : Array Value) (w : World) : (callFunc 195 args).run Tryz.prog w = .ok (.enter 195 args) w := by kernel_rfl
theorem meth185 (x : Value) (w : World) : (method 421 185 x "Match").run Tryz.prog w = .ok (251, x) w := by kernel_rfl
theorem nila185 (x : Value) (w : World) : (nilAhead 421 185 x "Match").run Tryz.prog w = .ok (some false) w := by kernel_rfl
theorem ent251 (args : Array Value) (w : World) : (callFunc 251 args).run Tryz.prog w = .ok (.enter 251 args) w := by kernel_rfl
theorem meth190 (x : Value) (w : World) : (method 421 190 x "Match").run Tryz.prog w = .ok (260, x) w := by kernel_rfl
theorem nila190 (x : Value) (w : World) : (nilAhead 421 190 x "Match").run Tryz.prog w = .ok (some false) w := by kernel_rfl
theorem ent260 (args : Array Value) (w : World) : (callFunc 260 args).run Tryz.prog w = .ok (.enter 260 args) w := by kernel_rfl
theorem meth191 (x : Value) (w : World) : (method 421 191 x "Match").run Tryz.prog w = .ok (262, x) w := by kernel_rfl
theorem nila191 (x : Value) (w : World) : (nilAhead 421 191 x "Match").run Tryz.prog w = .ok (some false) w := by kernel_rfl
theorem ent262 (args : Array Value) (w : World) : (callFunc 262 args).run Tryz.prog w = .ok (.enter 262 args) w := by kernel_rfl
theorem meth177 (x : Value) (w : World) : (method 421 177 x "Match").run Tryz.prog w = .ok (230, x) w := by kernel_rfl
theorem nila177 (x : Value) (w : World) : (nilAhead 421 177 x "Match").run Tryz.prog w = .ok (some false) w := by kernel_rfl
theorem ent230 (args : Array Value) (w : World) : (callFunc 230 args).run Tryz.prog w = .ok (.enter 230 args) w := by kernel_rfl
theorem meth171 (x : Value) (w : World) : (method 421 171 x "Match").run Tryz.prog w = .ok (226, x) w := by kernel_rfl
theorem nila171 (x : Value) (w : World) : (nilAhead 421 171 x "Match").run Tryz.prog w = .ok (some false) w := by kernel_rfl
theorem ent226 (args : Array Value) (w : World) : (callFunc 226 args).run Tryz.prog w = .ok (.enter 226 args) w := by kernel_rfl
theorem meth148 (x : Value) (w : World) : (method 421 148 x "Match").run Tryz.prog w = .ok (164, x) w := by kernel_rfl
theorem nila148 (x : Value) (w : World) : (nilAhead 421 148 x "Match").run Tryz.prog w = .ok (some false) w := by kernel_rfl
theorem ent164 (args : Array Value) (w : World) : (callFunc 164 args).run Tryz.prog w = .ok (.enter 164 args) w := by kernel_rfl

section
variable {n : Nat} {bl : Nat → Nat} {w : World} {T : TypeId} {x : Value} {F : FuncId} {m : Nat → Bool}
theorem selRep_of (h1 : ∀ w', (method 421 T x "Match").run Tryz.prog w' = .ok (F, x) w') (h2 : ∀ w', (nilAhead 421 T x "Match").run Tryz.prog w' = .ok (some false) w')
    (h4 : ∀ (args : Array Value) w', (callFunc F args).run Tryz.prog w' = .ok (.enter F args) w')
    (h3 : ∀ i w', i < n → Below w.heap.size w w' → Calls Tryz.prog F #[x, .pointer (some ⟨bl i, 0, none⟩)] w' fun e w'' => e = .returned (.bool (m i)) ∧ Below w'.heap.size w' w'') :
    SelRep n bl w (.iface T x) m := ⟨T, x, F, rfl, h1, h2, h4, h3⟩
end

theorem sels_of {α : Type} {Rel : (Nat → Prop) → World → Value → α → Prop} {X : Nat → Prop} {n : Nat} {bl : Nat → Nat} {w : World} {v : Value} {l : List α} (f : α → Nat → Bool)
    (h : SlX 1 16 (EV Rel) X w v l) (hf : ∀ x ∈ l, ∀ u, Rel X w u x → SelRep n bl w u (f x)) : SelsRep n bl w v (l.map f) := by
  obtain ⟨a, cap, rfl, hlen⟩ := SlX.len h (by omega)
  refine ⟨a, cap, by rw [List.length_map], by rw [List.length_map]; exact hlen, fun k hk => ?_⟩
  rw [List.length_map] at hk
  rcases SlX.view h (by omega) with ⟨rfl, _⟩ | ⟨b, o, cap', hve, _, _, _, _, hc⟩
  · simp at hk
  · simp only [Value.slice.injEq, true_and] at hve
    obtain ⟨rfl, rfl⟩ := hve
    obtain ⟨cs, _, h2, u, rfl, _, h3⟩ := hc k hk
    refine ⟨b, o, rfl, u, by simpa using h2 0 u rfl, ?_⟩
    rw [List.getElem_map]
    exact hf _ (List.getElem_mem hk) u h3

theorem notAny_ne {s : Simple} (h : notAny s = true) : s.kind ≠ 1 := by simpa [notAny] using h

section
variable {X : Nat → Prop} {w : World} {bl : Nat → Nat} {t : List Nk} {T : Nat → Int} {R : GRep} {og : Group → Prop} {mg : Group → List (Nat → Bool)}

theorem sm_rep {v : Value} {s : Simple} (hG : ∀ g v, og g → R X w v g → SelsRep t.length bl w v (mg g)) (hl : t.length ≤ 1000) (ht : TreeAt w bl t) (hT : Tbl w T) (hok : okSm og s) (hs : s.kind ≠ 1) (h : RSm R X w v s) :
    SelRep t.length bl w v (mSm T t mg s) := by
  obtain ⟨gv, rfl, hsub⟩ := h
  have hk := hok.kind
  unfold vSm mSm
  by_cases k0 : s.kind = 0
  · rw [if_pos k0, if_pos k0]
    exact selRep_of (F := 171) (meth153 _) (nila153 _) ent171 fun i w' hi hb => tag_any w' bl t s.name i hi (ht.keep hb)
  rw [if_neg k0, if_neg k0]
  by_cases k2 : s.kind = 2
  · rw [if_pos k2, if_pos k2]
    exact selRep_of (F := 175) (meth157 _) (nila157 _) ent175 fun i w' hi hb => id_any w' bl t s.name i hi (ht.keep hb)
  rw [if_neg k2, if_neg k2]
  by_cases k3 : s.kind = 3
  · rw [if_pos k3, if_pos k3]
    exact selRep_of (F := 185) (meth161 _) (nila161 _) ent185 fun i w' hi hb => class_any w' bl t s.name (asc_name (hok.name (by omega) (by omega) (by omega) (by omega) (by omega) (by omega))) i hi (ht.keep hb)
  rw [if_neg k3, if_neg k3]
  by_cases k4 : s.kind = 4
  · rw [if_pos k4, if_neg (show ¬ s.kind = 11 by omega), if_neg (show ¬ s.kind = 12 by omega), if_neg (show ¬ s.kind = 13 by omega), if_neg (show ¬ s.kind = 14 by omega), if_neg (show ¬ s.kind = 15 by omega), k4]
    exact selRep_of (F := 195) (meth165 _) (nila165 _) ent195 fun i w' hi hb => attrHas_any T w' bl t s.name s.value s.fold i hi (ht.keep hb)
  rw [if_neg k4]
  by_cases k11 : s.kind = 11
  · rw [if_pos k11, if_pos k11]
    exact selRep_of (F := 251) (meth185 _) (nila185 _) ent251 fun i w' hi hb => nth_any w' bl t s.a s.b s.last s.ofType ⟨(hok.nth k11).1, (hok.nth k11).2.1⟩ (hok.nth k11).2.2 hl i hi (ht.keep hb)
  rw [if_neg k11, if_neg k11]
  by_cases k12 : s.kind = 12
  · rw [if_pos k12, if_pos k12]
    exact selRep_of (F := 260) (meth190 _) (nila190 _) ent260 fun i w' hi hb => empty_any T w' bl t i hi (ht.keep hb) (hT.keep hb)
  rw [if_neg k12, if_neg k12]
  by_cases k13 : s.kind = 13
  · rw [if_pos k13, if_pos k13]
    exact selRep_of (F := 262) (meth191 _) (nila191 _) ent262 fun i w' hi hb => root_any w' bl t i hi (ht.keep hb)
  rw [if_neg k13, if_neg k13]
  by_cases k14 : s.kind = 14
  · rw [if_pos k14, if_pos k14]
    have hv := hG _ _ (hok.subs (.inl k14)) (hsub (.inl k14))
    exact selRep_of (F := 230) (meth177 _) (nila177 _) ent230 fun i w' hi hb => not_any w' bl t gv (mg s.subs) i hi (ht.keep hb) (hv.keep hb)
  rw [if_neg k14, if_neg k14]
  by_cases k15 : s.kind = 15
  · rw [if_pos k15, if_pos k15]
    have hv := hG _ _ (hok.subs (.inr k15)) (hsub (.inr k15))
    exact selRep_of (F := 230) (meth177 _) (nila177 _) ent230 fun i w' hi hb => has_any w' bl t gv (mg s.subs) i hi (ht.keep hb) (hv.keep hb)
  rw [if_neg k15, if_neg k15]
  have hval := asc_value (hok.value (by omega))
  exact selRep_of (F := 195) (meth165 _) (nila165 _) ent195 fun i w' hi hb => attr_any T w' bl t s.kind s.name s.value s.fold (by omega) hval i hi (ht.keep hb) (hT.keep hb)

theorem ps_rep {v : Value} {l : List Simple} (hG : ∀ g v, og g → R X w v g → SelsRep t.length bl w v (mg g)) (hl : t.length ≤ 1000) (ht : TreeAt w bl t) (hT : Tbl w T) (hok : okParts og l) (h : RPs R X w v (l.filter notAny)) :
    SelRep t.length bl w v (mPs T t mg (l.filter notAny)) := by
  have hmem : ∀ s ∈ l.filter notAny, okSm og s ∧ s.kind ≠ 1 := fun s hs => by
    obtain ⟨h1, h2⟩ := List.mem_filter.1 hs
    obtain ⟨k, hk, rfl⟩ := List.mem_iff_getElem.1 h1
    exact ⟨(hok.each k hk).1, notAny_ne h2⟩
  rcases h with ⟨s, hs, hr⟩ | ⟨hne, sl, rfl, hr⟩
  · have := hmem s (by rw [hs]; simp)
    rw [hs]
    exact sm_rep hG hl ht hT this.1 this.2 hr
  · have hm : mPs T t mg (l.filter notAny) = mComp t ((l.filter notAny).map (mSm T t mg)) := by
      generalize l.filter notAny = q at hne
      cases q with
      | nil => rfl
      | cons a q =>
        cases q with
        | nil => exact absurd rfl hne
        | cons b q => rfl
    rw [hm]
    have hv := sels_of (n := t.length) (bl := bl) (mSm T t mg) hr fun s hs u hu => sm_rep hG hl ht hT (hmem s hs).1 (hmem s hs).2 hu
    exact selRep_of (F := 226) (meth171 _) (nila171 _) ent226 fun i w' hi hb => compound_any w' bl t sl _ i hi (ht.keep hb) (hv.keep hb)

theorem joinB_ok {j : ByteArray} (h : okJoin j) : joinB j = 32 ∨ joinB j = 62 ∨ joinB j = 43 ∨ joinB j = 126 := by
  unfold joinB
  rcases h with h | h | h | h <;> simp [h]

theorem cxr_rep (hG : ∀ g v, og g → R X w v g → SelsRep t.length bl w v (mg g)) (hl : t.length ≤ 1000) (ht : TreeAt w bl t) (hT : Tbl w T) :
    ∀ (l : List Compound) (v : Value), (∀ p ∈ l, okParts og p.2) → (∀ k (h : k < l.length), k + 1 < l.length → okJoin l[k].1) → RCx R X w v l → SelRep t.length bl w v (mCxR T t mg l)
  | [], _, _, _, h => h.elim
  | [p], v, hp, _, h => ps_rep hG hl ht hT (hp p (by simp)) h
  | p :: q :: l, v, hp, hj, h => by
    obtain ⟨v1, v2, rfl, _, _, h1, h2⟩ := h
    have ha := cxr_rep hG hl ht hT (q :: l) v1 (fun x hx => hp x (List.mem_cons_of_mem _ hx)) (fun k hk hk2 => hj (k + 1) (by simpa using hk) (by simpa using hk2)) h1
    have hd := ps_rep hG hl ht hT (hp p (by simp)) h2
    have hjo := joinB_ok (hj 0 (by simp) (by simp))
    exact selRep_of (F := 164) (meth148 _) (nila148 _) ent164 fun i w' hi hb => combined_any w' bl t v1 v2 _ _ (joinB p.1) i hi (ht.keep hb) (ha.keep hb) (hd.keep hb) hjo

theorem cx_rep (hG : ∀ g v, og g → R X w v g → SelsRep t.length bl w v (mg g)) (hl : t.length ≤ 1000) (ht : TreeAt w bl t) (hT : Tbl w T) {c : Complex} (hok : okCx og c) {v : Value} (h : RCr R X w v c) :
    SelRep t.length bl w v (mCx T t mg c) := by
  refine cxr_rep hG hl ht hT c.reverse v ?_ ?_ h
  · intro p hp
    obtain ⟨k, hk, rfl⟩ := List.mem_iff_getElem.1 (List.mem_reverse.1 hp)
    exact (hok.each k hk).1
  · intro k hk hk2
    rw [List.length_reverse] at hk hk2
    rw [List.getElem_reverse]
    exact (hok.each _ _).2 (by omega)
end

theorem g_rep {w : World} {bl : Nat → Nat} {t : List Nk} {T : Nat → Int} (hl : t.length ≤ 1000) (ht : TreeAt w bl t) (hT : Tbl w T) (X : Nat → Prop) :
    ∀ (d : Nat) (g : Group) (v : Value), okG d g → RS d X w v g → SelsRep t.length bl w v (mG T t d g)
  | 0, _, _, h, _ => h.elim
  | d + 1, g, v, hok, h => by
    have IH := g_rep hl ht hT X d
    refine sels_of (mCx T t (mG T t d)) h fun c hc u hu => ?_
    obtain ⟨k, hk, rfl⟩ := List.mem_iff_getElem.1 hc
    exact cx_rep IH hl ht hT (hok.each k hk) hu

/-! Only elements match. -/
theorem sm_el_of {T : Nat → Int} {t : List Nk} {mg : Group → List (Nat → Bool)} {s : Simple} {i : Nat} (h : mSm T t mg s i = true) : isEl t i = true := by
  unfold mSm at h
  repeat' split at h
  all_goals first
    | exact mAttr_el h
    | exact mNth_el h
    | (simp only [mTag, mId, mClass, mEmpty, mRoot, mNot, mHas, Bool.and_eq_true] at h; exact h.1)
theorem ps_el_of {T : Nat → Int} {t : List Nk} {mg : Group → List (Nat → Bool)} {l : List Simple} {i : Nat} (h : mPs T t mg l i = true) : isEl t i = true := by
  unfold mPs at h
  split at h
  · exact sm_el_of h
  · unfold mComp at h
    split at h
    · exact h
    · rename_i hne
      rw [List.all_eq_true] at h
      cases l with
      | nil => simp at hne
      | cons s l => exact sm_el_of (h (mSm T t mg s) (by simp))
theorem cxr_el_of {T : Nat → Int} {t : List Nk} {mg : Group → List (Nat → Bool)} {l : List Compound} {i : Nat} (h : mCxR T t mg l i = true) : isEl t i = true := by
  match l, h with
  | [], h => simp [mCxR] at h
  | [p], h => exact ps_el_of h
  | p :: q :: l, h =>
    unfold mCxR joinOf at h
    repeat' split at h
    all_goals simp only [childOf, sibOf, Bool.and_eq_true] at h; exact ps_el_of h.1
theorem mG_el_of {T : Nat → Int} {t : List Nk} {d : Nat} {g : Group} {i : Nat} (h : ((mG T t d g).any fun m => m i) = true) : isEl t i = true := by
  cases d with
  | zero => simp [mG] at h
  | succ d =>
    simp only [mG, List.any_map, List.any_eq_true, Function.comp] at h
    obtain ⟨c, _, hc⟩ := h
    exact cxr_el_of hc

end Go.Proofs.YteaapgijeehhfaaGreatDoor
