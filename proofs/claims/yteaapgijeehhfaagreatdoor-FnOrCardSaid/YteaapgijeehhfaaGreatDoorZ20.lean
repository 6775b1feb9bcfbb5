/- ':not(..)' and ':has(..)'. -/
/- Selectors of an id. -/
/- Values of attributes, compared. -/
import Derived.Test.YteaapgijeehhfaaGreatDoorZ19
import Derived.Test.YteaapgijeehhfaaGreatDoorZ00
namespace Go.Proofs.YteaapgijeehhfaaGreatDoor
open Go.RowKit

def mNot (t : List Nk) (ms : List (Nat → Bool)) (i : Nat) : Bool := isEl t i && !(ms.any fun m => m i)
def mHas (t : List Nk) (ms : List (Nat → Bool)) (i : Nat) : Bool := isEl t i && hasD t (fun c => ms.any fun m => m c) t.length (fst t i)

set_option maxRecDepth 100000 in
set_option maxHeartbeats 4000000 in
theorem not_any (w : World) (bl : Nat → Nat) (t : List Nk) (v : Value) (ms : List (Nat → Bool)) (i : Nat) (hi : i < t.length) (ht : TreeAt w bl t) (hv : SelsRep t.length bl w v ms) :
    Calls Tryz.prog 230 #[.agg #[.string ⟨#[110, 111, 116]⟩, v], .pointer (some ⟨bl i, 0, none⟩)] w fun e w' => e = .returned (.bool (mNot t ms i)) ∧ Below w.heap.size w w' := by
  obtain ⟨a, cap, rfl, hlen, hk⟩ := hv
  have hba := below_alloc w (.cells #[.string ⟨#[110, 111, 116]⟩, .slice a ms.length cap] 177)
  have HV : Hid (SelsRep t.length bl (w.alloc (.cells #[.string ⟨#[110, 111, 116]⟩, .slice a ms.length cap] 177)) (.slice a ms.length cap) ms) := Lib.hid (SelsRep.keep ⟨a, cap, rfl, hlen, hk⟩ hba)
  have q5 := (ht.keep hba).c5 hi
  have HB := Lib.hid hba
  clear ht hk hba
  unfold mNot isEl
  obtain ⟨r, hr⟩ : ∃ r, (ms.any fun m => m i) = r := ⟨_, rfl⟩
  have hc := groupMatch_any t.length bl _ _ ms i hi HV.out
  rw [hr] at hc ⊢
  have HC := Lib.hid hc
  clear hc hr
  by_cases h3 : knd t i = 3
  · have e3 : (knd t i != 3) = false := by simp [h3]
    rw [show decide (knd t i = 3) = true by simp [h3]]
    clear h3
    go_enter Tryz.func230, Tryz.ntmps230
    go_wp2_with (go_at_call 38; refine HC.out.mono ?_; rintro e w2 ⟨rfl, hb2⟩)
    go_ret
    exact ⟨ret_bool (by simp), below_step HB.out hb2⟩
  · have e3 : (knd t i != 3) = true := by simpa using h3
    rw [show decide (knd t i = 3) = false by simp [h3]]
    clear h3
    go_enter Tryz.func230, Tryz.ntmps230
    go_wp2_with fail
    go_ret
    exact ⟨ret_bool (by simp), HB.out⟩

set_option maxRecDepth 100000 in
set_option maxHeartbeats 4000000 in
theorem has_any (w : World) (bl : Nat → Nat) (t : List Nk) (v : Value) (ms : List (Nat → Bool)) (i : Nat) (hi : i < t.length) (ht : TreeAt w bl t) (hv : SelsRep t.length bl w v ms) :
    Calls Tryz.prog 230 #[.agg #[.string ⟨#[104, 97, 115]⟩, v], .pointer (some ⟨bl i, 0, none⟩)] w fun e w' => e = .returned (.bool (mHas t ms i)) ∧ Below w.heap.size w w' := by
  obtain ⟨a, cap, rfl, hlen, hk⟩ := hv
  have hba := below_alloc w (.cells #[.string ⟨#[104, 97, 115]⟩, .slice a ms.length cap] 177)
  have HV : Hid (SelsRep t.length bl (w.alloc (.cells #[.string ⟨#[104, 97, 115]⟩, .slice a ms.length cap] 177)) (.slice a ms.length cap) ms) := Lib.hid (SelsRep.keep ⟨a, cap, rfl, hlen, hk⟩ hba)
  have q5 := (ht.keep hba).c5 hi
  have HT := Lib.hid (ht.keep hba)
  have HB := Lib.hid hba
  clear ht hk hba
  unfold mHas isEl
  obtain ⟨r, hr⟩ : ∃ r, hasD t (fun c => ms.any fun m => m c) t.length (fst t i) = r := ⟨_, rfl⟩
  have hc := hasDesc_any bl t _ ms t.length _ i hi HT.out HV.out (by omega)
  rw [hr] at hc ⊢
  have HC := Lib.hid hc
  clear hc hr
  by_cases h3 : knd t i = 3
  · have e3 : (knd t i != 3) = false := by simp [h3]
    rw [show decide (knd t i = 3) = true by simp [h3]]
    clear h3
    go_enter Tryz.func230, Tryz.ntmps230
    go_wp2_with (go_at_call 234; refine HC.out.mono ?_; rintro e w2 ⟨rfl, hb2⟩)
    go_ret
    exact ⟨ret_bool (by simp), below_step HB.out hb2⟩
  · have e3 : (knd t i != 3) = true := by simpa using h3
    rw [show decide (knd t i = 3) = false by simp [h3]]
    clear h3
    go_enter Tryz.func230, Tryz.ntmps230
    go_wp2_with fail
    go_ret
    exact ⟨ret_bool (by simp), HB.out⟩

end Go.Proofs.YteaapgijeehhfaaGreatDoor

namespace Go.Proofs.YteaapgijeehhfaaGreatDoor
open Go.RowKit

theorem TreeAt.attr {w : World} {bl : Nat → Nat} {t : List Nk} {i : Nat} (ht : TreeAt w bl t) (hi : i < t.length) (F : FuncId) (caps : Array Value) (key : ByteArray) (p : ByteArray → Bool) (hF : FunRep w F caps p) :
    Calls Tryz.prog 179 #[.pointer (some ⟨bl i, 0, none⟩), .string key, .func (.func F) #[] caps] w
      fun e w' => e = .returned (.bool (isEl t i && attrAny (atr t i) key p)) ∧ Below w.heap.size w w' := by
  obtain ⟨av, h7, hs⟩ := ht.c7 hi
  exact matchAttribute_any (fun _ => True) w (bl i) (knd t i) av (atr t i) F caps key p (ht.c5 hi) h7 hs (ht.atr_asc hi) hF

set_option maxRecDepth 100000 in
set_option maxHeartbeats 2000000 in
theorem idFun (w : World) (N : Nat) (name : ByteArray) (h : w.cell? ⟨N, 0, none⟩ = some (.string name)) : FunRep w 180 #[.pointer (some ⟨N, 0, none⟩)] (fun s => s.toList == name.toList) where
  enters := fun _ _ => rfl
  calls := by
    intro s w' _ hb
    have h0 := cell_keep hb h
    clear h hb
    simp only [List.append_toArray, List.cons_append, List.nil_append]
    go_enter Tryz.func180, Tryz.ntmps180
    go_wp2_with fail
    go_ret
    exact ⟨rfl, Below.refl _ _⟩

def mId (t : List Nk) (name : ByteArray) (i : Nat) : Bool := isEl t i && attrAny (atr t i) ⟨#[105, 100]⟩ (fun s => s.toList == name.toList)

set_option maxRecDepth 100000 in
set_option maxHeartbeats 4000000 in
theorem id_any (w : World) (bl : Nat → Nat) (t : List Nk) (name : ByteArray) (i : Nat) (hi : i < t.length) (ht : TreeAt w bl t) :
    Calls Tryz.prog 175 #[.agg #[.string name], .pointer (some ⟨bl i, 0, none⟩)] w fun e w' => e = .returned (.bool (mId t name i)) ∧ Below w.heap.size w w' := by
  have hba := below_alloc w (.cells #[.string name] 157)
  have hmf : ∀ (fn : Fn) (first cap : Array Value) (w : World), (Instr.makeFunc fn first cap).run Tryz.prog w = .ok (.func fn first cap) w := fun _ _ _ _ => rfl
  have hf := idFun (w.alloc (.cells #[.string name] 157)) w.heap.size name (by rw [cell_of_heap (heap_alloc_new w _)]; rfl)
  have HC := Lib.hid ((ht.keep hba).attr hi 180 _ ⟨#[105, 100]⟩ _ hf)
  have HB := Lib.hid hba
  clear ht hba hf
  unfold mId
  go_enter Tryz.func175, Tryz.ntmps175
  go_wp2_with (go_at_call 179; refine HC.out.mono ?_; rintro e w2 ⟨rfl, hb2⟩)
  go_ret
  exact ⟨rfl, below_step HB.out hb2⟩

end Go.Proofs.YteaapgijeehhfaaGreatDoor

namespace Go.Proofs.YteaapgijeehhfaaGreatDoor
open Go.RowKit

def eqI (ic : Bool) (a b : ByteArray) : Bool := if ic then Lib.equalFold (L a) (L b) else a.toList == b.toList

theorem asc_get {s : ByteArray} (h : asc s) : ∀ (j : Nat) b, s.data.toList[j]? = some b → b.toNat < 128 := fun _ _ hj => h.1 _ (List.mem_of_getElem? hj)

set_option maxRecDepth 100000 in
set_option maxHeartbeats 2000000 in
theorem eqI_any (w : World) (ic : Bool) (a b : ByteArray) (ha : asc a) (hb : asc b) :
    Calls Tryz.prog 192 #[.string a, .string b, .bool ic] w fun e w' => e = .returned (.bool (eqI ic a b)) ∧ w' = w := by
  unfold eqI
  have HE := Lib.hid (Tryz.strings_EqualFold a b w (by have := ha.2; omega) (asc_get ha) (asc_get hb))
  clear ha hb
  cases ic
  · go_enter Tryz.func192, Tryz.ntmps192
    go_wp2_with fail
    go_ret
    exact ⟨rfl, rfl⟩
  · go_enter Tryz.func192, Tryz.ntmps192
    go_wp2_with (go_at_call 193; refine HE.out.mono ?_; rintro e w2 ⟨rfl, rfl⟩)
    go_ret
    exact ⟨rfl, rfl⟩

end Go.Proofs.YteaapgijeehhfaaGreatDoor
