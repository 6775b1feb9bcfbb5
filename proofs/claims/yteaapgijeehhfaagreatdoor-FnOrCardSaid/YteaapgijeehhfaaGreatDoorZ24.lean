/- Selectors of attributes with a value: '|=', '^=', '$=', '*=', '!='. -/
/- Selectors of attributes of another value: '!='. -/
/- Selectors of attributes, all of them. -/
import Derived.Test.YteaapgijeehhfaaGreatDoorZ23
import Derived.Test.YteaapgijeehhfaaGreatDoorZ13
namespace Go.Proofs.YteaapgijeehhfaaGreatDoor
open Go.RowKit

/-- What is asked of the value of an attribute, by the kind of the selector. -/
def valP (T : Nat → Int) (k : Int) (val : ByteArray) (ic : Bool) (s : ByteArray) : Bool :=
  if k = 4 then true else if k = 5 ∨ k = 16 then eqI ic s val else if k = 6 then incl ic val (s.size + 1) (L s) else if k = 7 then dashP ic val s
  else if k = 8 then prefP T ic val s else if k = 9 then sufP T ic val s else subP T ic val s
def mAttr (T : Nat → Int) (t : List Nk) (k : Int) (key val : ByteArray) (ic : Bool) (i : Nat) : Bool :=
  isEl t i && (if k = 16 then !attrAny (atr t i) key (valP T k val ic) else attrAny (atr t i) key (valP T k val ic))
theorem mAttr_el {T : Nat → Int} {t : List Nk} {k : Int} {key val : ByteArray} {ic : Bool} {i : Nat} (h : mAttr T t k key val ic i = true) : isEl t i = true := by
  unfold mAttr at h; rw [Bool.and_eq_true] at h; exact h.1

set_option maxRecDepth 100000 in
set_option maxHeartbeats 4000000 in
theorem dash_any (w : World) (bl : Nat → Nat) (t : List Nk) (key val : ByteArray) (ic : Bool) (hv : asc val) (i : Nat) (hi : i < t.length) (ht : TreeAt w bl t) :
    Calls Tryz.prog 203 #[.string key, .string val, .pointer (some ⟨bl i, 0, none⟩), .bool ic] w fun e w' => e = .returned (.bool (isEl t i && attrAny (atr t i) key (dashP ic val))) ∧ Below w.heap.size w w' := by
  have hb1 := below_alloc w (.cells #[.string val] 9)
  have hb2 := hb1.alloc hb1.size (.cells #[.bool ic] 4)
  have hmf : ∀ (fn : Fn) (first cap : Array Value) (w : World), (Instr.makeFunc fn first cap).run Tryz.prog w = .ok (.func fn first cap) w := fun _ _ _ _ => rfl
  have hf := dashFun ((w.alloc (.cells #[.string val] 9)).alloc (.cells #[.bool ic] 4)) w.heap.size (w.heap.size + 1) val ic hv
    (cell_keep (below_alloc _ _) (by rw [cell_of_heap (heap_alloc_new w _)]; rfl)) (by rw [show w.heap.size + 1 = (w.alloc (.cells #[.string val] 9)).heap.size by simp, cell_of_heap (heap_alloc_new _ _)]; rfl)
  have HC := Lib.hid ((ht.keep hb2).attr hi 207 _ key _ hf)
  have HB := Lib.hid hb2
  clear ht hb1 hb2 hf
  go_enter Tryz.func203, Tryz.ntmps203
  go_wp2_with (go_at_call 179; refine HC.out.mono ?_; rintro e w2 ⟨rfl, hb2⟩)
  go_ret
  exact ⟨rfl, below_step HB.out hb2⟩

set_option maxRecDepth 100000 in
set_option maxHeartbeats 4000000 in
theorem pref_any (T : Nat → Int) (w : World) (bl : Nat → Nat) (t : List Nk) (key val : ByteArray) (ic : Bool) (hv : asc val) (hT : Tbl w T) (i : Nat) (hi : i < t.length) (ht : TreeAt w bl t) :
    Calls Tryz.prog 204 #[.string key, .string val, .pointer (some ⟨bl i, 0, none⟩), .bool ic] w fun e w' => e = .returned (.bool (isEl t i && attrAny (atr t i) key (prefP T ic val))) ∧ Below w.heap.size w w' := by
  have hb1 := below_alloc w (.cells #[.string val] 9)
  have hb2 := hb1.alloc hb1.size (.cells #[.bool ic] 4)
  have hmf : ∀ (fn : Fn) (first cap : Array Value) (w : World), (Instr.makeFunc fn first cap).run Tryz.prog w = .ok (.func fn first cap) w := fun _ _ _ _ => rfl
  have hf := prefFun T ((w.alloc (.cells #[.string val] 9)).alloc (.cells #[.bool ic] 4)) (w.heap.size + 1) w.heap.size val ic hv (hT.keep hb2)
    (by rw [show w.heap.size + 1 = (w.alloc (.cells #[.string val] 9)).heap.size by simp, cell_of_heap (heap_alloc_new _ _)]; rfl) (cell_keep (below_alloc _ _) (by rw [cell_of_heap (heap_alloc_new w _)]; rfl))
  have HC := Lib.hid ((ht.keep hb2).attr hi 208 _ key _ hf)
  have HB := Lib.hid hb2
  clear ht hb1 hb2 hf hT
  go_enter Tryz.func204, Tryz.ntmps204
  go_wp2_with (go_at_call 179; refine HC.out.mono ?_; rintro e w2 ⟨rfl, hb2⟩)
  go_ret
  exact ⟨rfl, below_step HB.out hb2⟩

set_option maxRecDepth 100000 in
set_option maxHeartbeats 4000000 in
theorem suf_any (T : Nat → Int) (w : World) (bl : Nat → Nat) (t : List Nk) (key val : ByteArray) (ic : Bool) (hv : asc val) (hT : Tbl w T) (i : Nat) (hi : i < t.length) (ht : TreeAt w bl t) :
    Calls Tryz.prog 205 #[.string key, .string val, .pointer (some ⟨bl i, 0, none⟩), .bool ic] w fun e w' => e = .returned (.bool (isEl t i && attrAny (atr t i) key (sufP T ic val))) ∧ Below w.heap.size w w' := by
  have hb1 := below_alloc w (.cells #[.string val] 9)
  have hb2 := hb1.alloc hb1.size (.cells #[.bool ic] 4)
  have hmf : ∀ (fn : Fn) (first cap : Array Value) (w : World), (Instr.makeFunc fn first cap).run Tryz.prog w = .ok (.func fn first cap) w := fun _ _ _ _ => rfl
  have hf := sufFun T ((w.alloc (.cells #[.string val] 9)).alloc (.cells #[.bool ic] 4)) (w.heap.size + 1) w.heap.size val ic hv (hT.keep hb2)
    (by rw [show w.heap.size + 1 = (w.alloc (.cells #[.string val] 9)).heap.size by simp, cell_of_heap (heap_alloc_new _ _)]; rfl) (cell_keep (below_alloc _ _) (by rw [cell_of_heap (heap_alloc_new w _)]; rfl))
  have HC := Lib.hid ((ht.keep hb2).attr hi 210 _ key _ hf)
  have HB := Lib.hid hb2
  clear ht hb1 hb2 hf hT
  go_enter Tryz.func205, Tryz.ntmps205
  go_wp2_with (go_at_call 179; refine HC.out.mono ?_; rintro e w2 ⟨rfl, hb2⟩)
  go_ret
  exact ⟨rfl, below_step HB.out hb2⟩

set_option maxRecDepth 100000 in
set_option maxHeartbeats 4000000 in
theorem sub_any (T : Nat → Int) (w : World) (bl : Nat → Nat) (t : List Nk) (key val : ByteArray) (ic : Bool) (hv : asc val) (hT : Tbl w T) (i : Nat) (hi : i < t.length) (ht : TreeAt w bl t) :
    Calls Tryz.prog 206 #[.string key, .string val, .pointer (some ⟨bl i, 0, none⟩), .bool ic] w fun e w' => e = .returned (.bool (isEl t i && attrAny (atr t i) key (subP T ic val))) ∧ Below w.heap.size w w' := by
  have hb1 := below_alloc w (.cells #[.string val] 9)
  have hb2 := hb1.alloc hb1.size (.cells #[.bool ic] 4)
  have hmf : ∀ (fn : Fn) (first cap : Array Value) (w : World), (Instr.makeFunc fn first cap).run Tryz.prog w = .ok (.func fn first cap) w := fun _ _ _ _ => rfl
  have hf := subFun T ((w.alloc (.cells #[.string val] 9)).alloc (.cells #[.bool ic] 4)) (w.heap.size + 1) w.heap.size val ic hv (hT.keep hb2)
    (by rw [show w.heap.size + 1 = (w.alloc (.cells #[.string val] 9)).heap.size by simp, cell_of_heap (heap_alloc_new _ _)]; rfl) (cell_keep (below_alloc _ _) (by rw [cell_of_heap (heap_alloc_new w _)]; rfl))
  have HC := Lib.hid ((ht.keep hb2).attr hi 212 _ key _ hf)
  have HB := Lib.hid hb2
  clear ht hb1 hb2 hf hT
  go_enter Tryz.func206, Tryz.ntmps206
  go_wp2_with (go_at_call 179; refine HC.out.mono ?_; rintro e w2 ⟨rfl, hb2⟩)
  go_ret
  exact ⟨rfl, below_step HB.out hb2⟩

end Go.Proofs.YteaapgijeehhfaaGreatDoor

namespace Go.Proofs.YteaapgijeehhfaaGreatDoor
open Go.RowKit

set_option maxRecDepth 100000 in
set_option maxHeartbeats 4000000 in
theorem notEqual_any (w : World) (bl : Nat → Nat) (t : List Nk) (key val : ByteArray) (ic : Bool) (hv : asc val) (i : Nat) (hi : i < t.length) (ht : TreeAt w bl t) :
    Calls Tryz.prog 201 #[.string key, .string val, .pointer (some ⟨bl i, 0, none⟩), .bool ic] w fun e w' => e = .returned (.bool (isEl t i && !attrAny (atr t i) key (fun s => eqI ic s val))) ∧ Below w.heap.size w w' := by
  have hk := ht.c5 hi
  obtain ⟨v, ha, hs⟩ := ht.c7 hi
  have hal := ht.atr_asc hi
  unfold isEl
  obtain ⟨kind, hkd⟩ : ∃ kind, knd t i = kind := ⟨_, rfl⟩
  obtain ⟨al, hald⟩ : ∃ al, atr t i = al := ⟨_, rfl⟩
  rw [hkd] at hk ⊢
  rw [hald] at hs hal ⊢
  have HV := Lib.hid (SlX.view hs (by omega))
  obtain ⟨a, cap, rfl, hl⟩ := SlX.len hs (by omega)
  have HAL := Lib.hid hal
  clear hs hal ht hkd hald
  by_cases h3 : kind = 3
  · subst h3
    go_enter Tryz.func201, Tryz.ntmps201
    go_wp2_with fail
    go_loopw [21] (fun i wr => ∃ k : Nat, k ≤ al.length ∧ i = .int .i64 k ∧ (al.take k).any (fun a => a.1.toList == key.toList && eqI ic a.2 val) = false ∧ Below w.heap.size w wr) (fun i _ => al.length - (intOf i).toNat)
    case atStart => exact ⟨0, Nat.zero_le _, rfl, rfl, Below.refl _ _⟩
    case round =>
      obtain ⟨k, hkl, rfl, hany, hb⟩ := hrel
      have HA := Lib.hid hany
      clear hany
      by_cases hlt : k < al.length
      · rcases HV.out with ⟨rfl, _⟩ | ⟨b1, o1, cap1, hve, hX, _, hcb, hpos, hc⟩
        · simp at hlt
        · simp only [Value.slice.injEq, true_and] at hve
          obtain ⟨rfl, rfl⟩ := hve
          obtain ⟨cs, hcs1, hcs2, hcs3, hz1, hz2⟩ := hc k hlt
          subst hcs3
          have f0 := cell_keep hb (by simpa using hcs2 0 _ rfl)
          have f1 := cell_keep hb (by simpa using hcs2 1 _ rfl)
          clear hcs1 hcs2 hc
          have hbs := hb.size
          have hb2 := hb.alloc hbs (.cells #[.string al[k].1, .string al[k].2] 103)
          have hcal := eqI_any (wr.alloc (.cells #[.string al[k].1, .string al[k].2] 103)) ic al[k].2 val (HAL.out _ (List.getElem_mem hlt)) hv
          by_cases hkey : (al[k].1.toList == key.toList) = true
          · obtain ⟨r, hr⟩ : ∃ r, eqI ic al[k].2 val = r := ⟨_, rfl⟩
            rw [hr] at hcal
            have HC := Lib.hid hcal
            have HR := Lib.hid hr
            clear hcal hr
            cases r
            · go_wp2_with (go_at_call 192; refine HC.out.mono ?_; rintro e w' ⟨rfl, rfl⟩)
              go_roundw
              case rel => exact ⟨k + 1, by omega, by go_num, any_take_succ hlt HA.out (by simp [HR.out]), hb2⟩
              case measure => simp [intOf]; omega
            · go_wp2_with (go_at_call 192; refine HC.out.mono ?_; rintro e w' ⟨rfl, rfl⟩)
              go_ret
              exact ⟨ret_bool (by rw [attrAny, any_hit hlt (by simp [HR.out, hkey])]; rfl), hb2⟩
          · have hkey' : (al[k].1.toList == key.toList) = false := by simpa using hkey
            clear hkey hcal
            go_wp2_with fail
            go_roundw
            case rel => exact ⟨k + 1, by omega, by go_num, any_take_succ hlt HA.out (by simp [hkey']), hb2⟩
            case measure => simp [intOf]; omega
      · go_wp2_with fail
        go_ret
        exact ⟨ret_bool (by rw [attrAny, any_end hlt HA.out]; rfl), hb⟩
  · have h3' : (kind != 3) = true := by simpa using h3
    go_enter Tryz.func201, Tryz.ntmps201
    go_wp2_with fail
    go_ret
    exact ⟨ret_bool (by simp [h3]), Below.refl _ _⟩

end Go.Proofs.YteaapgijeehhfaaGreatDoor

namespace Go.Proofs.YteaapgijeehhfaaGreatDoor
open Go.RowKit

set_option maxRecDepth 100000 in
set_option maxHeartbeats 4000000 in
theorem attrHas_any (T : Nat → Int) (w : World) (bl : Nat → Nat) (t : List Nk) (key val : ByteArray) (ic : Bool) (i : Nat) (hi : i < t.length) (ht : TreeAt w bl t) :
    Calls Tryz.prog 195 #[.agg #[.string key, .string ⟨#[]⟩, .string ⟨#[]⟩, .bool false], .pointer (some ⟨bl i, 0, none⟩)] w fun e w' => e = .returned (.bool (mAttr T t 4 key val ic i)) ∧ Below w.heap.size w w' := by
  have hba := below_alloc w (.cells #[.string key, .string ⟨#[]⟩, .string ⟨#[]⟩, .bool false] 165)
  have hp : mAttr T t 4 key val ic i = (isEl t i && attrAny (atr t i) key (fun _ => true)) := rfl
  have HC := Lib.hid ((ht.keep hba).attr hi 199 #[] key _ (hasFun _))
  have HB := Lib.hid hba
  rw [hp]
  clear ht hba hp
  go_enter Tryz.func195, Tryz.ntmps195
  go_wp2_with (go_at_call 179; refine HC.out.mono ?_; rintro e w2 ⟨rfl, hb2⟩)
  go_ret
  exact ⟨rfl, below_step HB.out hb2⟩

set_option maxRecDepth 100000 in
set_option maxHeartbeats 4000000 in
theorem attr5_any (T : Nat → Int) (w : World) (bl : Nat → Nat) (t : List Nk) (key val : ByteArray) (ic : Bool) (hv : asc val) (i : Nat) (hi : i < t.length) (ht : TreeAt w bl t) (hT : Tbl w T) :
    Calls Tryz.prog 195 #[.agg #[.string key, .string val, .string ⟨#[61]⟩, .bool ic], .pointer (some ⟨bl i, 0, none⟩)] w fun e w' => e = .returned (.bool (mAttr T t 5 key val ic i)) ∧ Below w.heap.size w w' := by
  have hba := below_alloc w (.cells #[.string key, .string val, .string ⟨#[61]⟩, .bool ic] 165)
  have hmf : ∀ (fn : Fn) (first cap : Array Value) (w : World), (Instr.makeFunc fn first cap).run Tryz.prog w = .ok (.func fn first cap) w := fun _ _ _ _ => rfl
  have hp : mAttr T t 5 key val ic i = (isEl t i && attrAny (atr t i) key (fun s => eqI ic s val)) := rfl
  have hT2 := hT.keep hba
  have HC := Lib.hid ((ht.keep hba).attr hi 200 _ key _ (eqFun (w.alloc (.cells #[.string key, .string val, .string ⟨#[61]⟩, .bool ic] 165)) w.heap.size val ic hv (by rw [cell_of_heap (heap_alloc_new w _)]; rfl) (by rw [cell_of_heap (heap_alloc_new w _)]; rfl)))
  have HB := Lib.hid hba
  rw [hp]
  clear ht hba hp hT hT2
  go_enter Tryz.func195, Tryz.ntmps195
  go_wp2_with (go_at_call 179; refine HC.out.mono ?_; rintro e w2 ⟨rfl, hb2⟩)
  go_ret
  exact ⟨rfl, below_step HB.out hb2⟩

set_option maxRecDepth 100000 in
set_option maxHeartbeats 4000000 in
theorem attr6_any (T : Nat → Int) (w : World) (bl : Nat → Nat) (t : List Nk) (key val : ByteArray) (ic : Bool) (hv : asc val) (i : Nat) (hi : i < t.length) (ht : TreeAt w bl t) (hT : Tbl w T) :
    Calls Tryz.prog 195 #[.agg #[.string key, .string val, .string ⟨#[126, 61]⟩, .bool ic], .pointer (some ⟨bl i, 0, none⟩)] w fun e w' => e = .returned (.bool (mAttr T t 6 key val ic i)) ∧ Below w.heap.size w w' := by
  have hba := below_alloc w (.cells #[.string key, .string val, .string ⟨#[126, 61]⟩, .bool ic] 165)
  have hmf : ∀ (fn : Fn) (first cap : Array Value) (w : World), (Instr.makeFunc fn first cap).run Tryz.prog w = .ok (.func fn first cap) w := fun _ _ _ _ => rfl
  have hp : mAttr T t 6 key val ic i = (isEl t i && attrAny (atr t i) key (fun s => incl ic val (s.size + 1) (L s))) := rfl
  have hT2 := hT.keep hba
  have HC := Lib.hid ((ht.keep hba).attr hi 202 _ key _ (wordFun (w.alloc (.cells #[.string key, .string val, .string ⟨#[126, 61]⟩, .bool ic] 165)) w.heap.size val ic hv (by rw [cell_of_heap (heap_alloc_new w _)]; rfl) (by rw [cell_of_heap (heap_alloc_new w _)]; rfl)))
  have HB := Lib.hid hba
  rw [hp]
  clear ht hba hp hT hT2
  go_enter Tryz.func195, Tryz.ntmps195
  go_wp2_with (go_at_call 179; refine HC.out.mono ?_; rintro e w2 ⟨rfl, hb2⟩)
  go_ret
  exact ⟨rfl, below_step HB.out hb2⟩

set_option maxRecDepth 100000 in
set_option maxHeartbeats 4000000 in
theorem attr7_any (T : Nat → Int) (w : World) (bl : Nat → Nat) (t : List Nk) (key val : ByteArray) (ic : Bool) (hv : asc val) (i : Nat) (hi : i < t.length) (ht : TreeAt w bl t) (hT : Tbl w T) :
    Calls Tryz.prog 195 #[.agg #[.string key, .string val, .string ⟨#[124, 61]⟩, .bool ic], .pointer (some ⟨bl i, 0, none⟩)] w fun e w' => e = .returned (.bool (mAttr T t 7 key val ic i)) ∧ Below w.heap.size w w' := by
  have hba := below_alloc w (.cells #[.string key, .string val, .string ⟨#[124, 61]⟩, .bool ic] 165)
  have hmf : ∀ (fn : Fn) (first cap : Array Value) (w : World), (Instr.makeFunc fn first cap).run Tryz.prog w = .ok (.func fn first cap) w := fun _ _ _ _ => rfl
  have hp : mAttr T t 7 key val ic i = (isEl t i && attrAny (atr t i) key (dashP ic val)) := rfl
  have hT2 := hT.keep hba
  have HC := Lib.hid (dash_any _ bl t key val ic hv i hi (ht.keep hba))
  have HB := Lib.hid hba
  rw [hp]
  clear ht hba hp hT hT2
  go_enter Tryz.func195, Tryz.ntmps195
  go_wp2_with (go_at_call 203; refine HC.out.mono ?_; rintro e w2 ⟨rfl, hb2⟩)
  go_ret
  exact ⟨rfl, below_step HB.out hb2⟩

set_option maxRecDepth 100000 in
set_option maxHeartbeats 4000000 in
theorem attr8_any (T : Nat → Int) (w : World) (bl : Nat → Nat) (t : List Nk) (key val : ByteArray) (ic : Bool) (hv : asc val) (i : Nat) (hi : i < t.length) (ht : TreeAt w bl t) (hT : Tbl w T) :
    Calls Tryz.prog 195 #[.agg #[.string key, .string val, .string ⟨#[94, 61]⟩, .bool ic], .pointer (some ⟨bl i, 0, none⟩)] w fun e w' => e = .returned (.bool (mAttr T t 8 key val ic i)) ∧ Below w.heap.size w w' := by
  have hba := below_alloc w (.cells #[.string key, .string val, .string ⟨#[94, 61]⟩, .bool ic] 165)
  have hmf : ∀ (fn : Fn) (first cap : Array Value) (w : World), (Instr.makeFunc fn first cap).run Tryz.prog w = .ok (.func fn first cap) w := fun _ _ _ _ => rfl
  have hp : mAttr T t 8 key val ic i = (isEl t i && attrAny (atr t i) key (prefP T ic val)) := rfl
  have hT2 := hT.keep hba
  have HC := Lib.hid (pref_any T _ bl t key val ic hv hT2 i hi (ht.keep hba))
  have HB := Lib.hid hba
  rw [hp]
  clear ht hba hp hT hT2
  go_enter Tryz.func195, Tryz.ntmps195
  go_wp2_with (go_at_call 204; refine HC.out.mono ?_; rintro e w2 ⟨rfl, hb2⟩)
  go_ret
  exact ⟨rfl, below_step HB.out hb2⟩

set_option maxRecDepth 100000 in
set_option maxHeartbeats 4000000 in
theorem attr9_any (T : Nat → Int) (w : World) (bl : Nat → Nat) (t : List Nk) (key val : ByteArray) (ic : Bool) (hv : asc val) (i : Nat) (hi : i < t.length) (ht : TreeAt w bl t) (hT : Tbl w T) :
    Calls Tryz.prog 195 #[.agg #[.string key, .string val, .string ⟨#[36, 61]⟩, .bool ic], .pointer (some ⟨bl i, 0, none⟩)] w fun e w' => e = .returned (.bool (mAttr T t 9 key val ic i)) ∧ Below w.heap.size w w' := by
  have hba := below_alloc w (.cells #[.string key, .string val, .string ⟨#[36, 61]⟩, .bool ic] 165)
  have hmf : ∀ (fn : Fn) (first cap : Array Value) (w : World), (Instr.makeFunc fn first cap).run Tryz.prog w = .ok (.func fn first cap) w := fun _ _ _ _ => rfl
  have hp : mAttr T t 9 key val ic i = (isEl t i && attrAny (atr t i) key (sufP T ic val)) := rfl
  have hT2 := hT.keep hba
  have HC := Lib.hid (suf_any T _ bl t key val ic hv hT2 i hi (ht.keep hba))
  have HB := Lib.hid hba
  rw [hp]
  clear ht hba hp hT hT2
  go_enter Tryz.func195, Tryz.ntmps195
  go_wp2_with (go_at_call 205; refine HC.out.mono ?_; rintro e w2 ⟨rfl, hb2⟩)
  go_ret
  exact ⟨rfl, below_step HB.out hb2⟩

set_option maxRecDepth 100000 in
set_option maxHeartbeats 4000000 in
theorem attr10_any (T : Nat → Int) (w : World) (bl : Nat → Nat) (t : List Nk) (key val : ByteArray) (ic : Bool) (hv : asc val) (i : Nat) (hi : i < t.length) (ht : TreeAt w bl t) (hT : Tbl w T) :
    Calls Tryz.prog 195 #[.agg #[.string key, .string val, .string ⟨#[42, 61]⟩, .bool ic], .pointer (some ⟨bl i, 0, none⟩)] w fun e w' => e = .returned (.bool (mAttr T t 10 key val ic i)) ∧ Below w.heap.size w w' := by
  have hba := below_alloc w (.cells #[.string key, .string val, .string ⟨#[42, 61]⟩, .bool ic] 165)
  have hmf : ∀ (fn : Fn) (first cap : Array Value) (w : World), (Instr.makeFunc fn first cap).run Tryz.prog w = .ok (.func fn first cap) w := fun _ _ _ _ => rfl
  have hp : mAttr T t 10 key val ic i = (isEl t i && attrAny (atr t i) key (subP T ic val)) := rfl
  have hT2 := hT.keep hba
  have HC := Lib.hid (sub_any T _ bl t key val ic hv hT2 i hi (ht.keep hba))
  have HB := Lib.hid hba
  rw [hp]
  clear ht hba hp hT hT2
  go_enter Tryz.func195, Tryz.ntmps195
  go_wp2_with (go_at_call 206; refine HC.out.mono ?_; rintro e w2 ⟨rfl, hb2⟩)
  go_ret
  exact ⟨rfl, below_step HB.out hb2⟩

set_option maxRecDepth 100000 in
set_option maxHeartbeats 4000000 in
theorem attr16_any (T : Nat → Int) (w : World) (bl : Nat → Nat) (t : List Nk) (key val : ByteArray) (ic : Bool) (hv : asc val) (i : Nat) (hi : i < t.length) (ht : TreeAt w bl t) (hT : Tbl w T) :
    Calls Tryz.prog 195 #[.agg #[.string key, .string val, .string ⟨#[33, 61]⟩, .bool ic], .pointer (some ⟨bl i, 0, none⟩)] w fun e w' => e = .returned (.bool (mAttr T t 16 key val ic i)) ∧ Below w.heap.size w w' := by
  have hba := below_alloc w (.cells #[.string key, .string val, .string ⟨#[33, 61]⟩, .bool ic] 165)
  have hmf : ∀ (fn : Fn) (first cap : Array Value) (w : World), (Instr.makeFunc fn first cap).run Tryz.prog w = .ok (.func fn first cap) w := fun _ _ _ _ => rfl
  have hp : mAttr T t 16 key val ic i = (isEl t i && !attrAny (atr t i) key (fun s => eqI ic s val)) := rfl
  have hT2 := hT.keep hba
  have HC := Lib.hid (notEqual_any _ bl t key val ic hv i hi (ht.keep hba))
  have HB := Lib.hid hba
  rw [hp]
  clear ht hba hp hT hT2
  go_enter Tryz.func195, Tryz.ntmps195
  go_wp2_with (go_at_call 201; refine HC.out.mono ?_; rintro e w2 ⟨rfl, hb2⟩)
  go_ret
  exact ⟨rfl, below_step HB.out hb2⟩

theorem attr_any (T : Nat → Int) (w : World) (bl : Nat → Nat) (t : List Nk) (k : Int) (key val : ByteArray) (ic : Bool) (hk : (5 ≤ k ∧ k ≤ 10) ∨ k = 16) (hv : asc val) (i : Nat) (hi : i < t.length) (ht : TreeAt w bl t) (hT : Tbl w T) :
    Calls Tryz.prog 195 #[.agg #[.string key, .string val, .string (bs (opL k)), .bool ic], .pointer (some ⟨bl i, 0, none⟩)] w fun e w' => e = .returned (.bool (mAttr T t k key val ic i)) ∧ Below w.heap.size w w' := by
  obtain rfl | rfl | rfl | rfl | rfl | rfl | rfl : k = 5 ∨ k = 6 ∨ k = 7 ∨ k = 8 ∨ k = 9 ∨ k = 10 ∨ k = 16 := by omega
  · exact attr5_any T w bl t key val ic hv i hi ht hT
  · exact attr6_any T w bl t key val ic hv i hi ht hT
  · exact attr7_any T w bl t key val ic hv i hi ht hT
  · exact attr8_any T w bl t key val ic hv i hi ht hT
  · exact attr9_any T w bl t key val ic hv i hi ht hT
  · exact attr10_any T w bl t key val ic hv i hi ht hT
  · exact attr16_any T w bl t key val ic hv i hi ht hT

end Go.Proofs.YteaapgijeehhfaaGreatDoor
