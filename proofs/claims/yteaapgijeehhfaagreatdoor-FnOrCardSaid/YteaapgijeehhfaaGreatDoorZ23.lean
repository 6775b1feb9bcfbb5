/- What is asked of an attribute's value; closures that ask it. -/
/- The closures of '|=', '^=', '$=' and '*='. -/
/- The closures of '^=', '$=' and '*='; printed by genlow.py. -/
import Derived.Test.YteaapgijeehhfaaGreatDoorZ22
namespace Go.Proofs.YteaapgijeehhfaaGreatDoor
open Go.RowKit

def dashP (ic : Bool) (val s : ByteArray) : Bool :=
  if eqI ic s val then true else if s.size ≤ val.size then false else eqI ic (bs ((L s).take val.size)) val && decide ((L s).getD val.size 0 = 45)
def prefP (T : Nat → Int) (ic : Bool) (val s : ByteArray) : Bool :=
  if trimE T s then false else if ic then Lib.hasPrefix (Lib.toLowerA (L s)) (Lib.toLowerA (L val)) else Lib.hasPrefix (L s) (L val)
def sufP (T : Nat → Int) (ic : Bool) (val s : ByteArray) : Bool :=
  if trimE T s then false else if ic then Lib.hasSuffix (Lib.toLowerA (L s)) (Lib.toLowerA (L val)) else Lib.hasSuffix (L s) (L val)
def subP (T : Nat → Int) (ic : Bool) (val s : ByteArray) : Bool :=
  if trimE T s then false else if ic then partFrom (Lib.toLowerA (L s)) (Lib.toLowerA (L val)) 0 else partFrom (L s) (L val) 0

set_option maxRecDepth 100000 in
set_option maxHeartbeats 2000000 in
theorem hasFun (w : World) : FunRep w 199 #[] (fun _ => true) where
  enters := fun _ _ => rfl
  calls := by
    intro s w' hs hb
    clear hb hs
    simp only [List.append_toArray, List.cons_append, List.nil_append]
    go_enter Tryz.func199, Tryz.ntmps199
    go_wp2_with fail
    go_ret
    exact ⟨rfl, Below.refl _ _⟩

set_option maxRecDepth 100000 in
set_option maxHeartbeats 2000000 in
theorem eqFun (w : World) (N : Nat) (val : ByteArray) (ic : Bool) (hv : asc val) (h1 : w.cell? ⟨N, 1, none⟩ = some (.string val)) (h3 : w.cell? ⟨N, 3, none⟩ = some (.bool ic)) :
    FunRep w 200 #[.pointer (some ⟨N, 0, none⟩)] (fun s => eqI ic s val) where
  enters := fun _ _ => rfl
  calls := by
    intro s w' hs hb
    have f1 := cell_keep hb h1
    have f3 := cell_keep hb h3
    have HC := Lib.hid (eqI_any w' ic s val hs hv)
    clear hb hs hv h1 h3
    simp only [List.append_toArray, List.cons_append, List.nil_append]
    go_enter Tryz.func200, Tryz.ntmps200
    go_wp2_with (go_at_call 192; refine HC.out.mono ?_; rintro e w2 ⟨rfl, rfl⟩)
    go_ret
    exact ⟨rfl, Below.refl _ _⟩

set_option maxRecDepth 100000 in
set_option maxHeartbeats 2000000 in
theorem wordFun (w : World) (N : Nat) (val : ByteArray) (ic : Bool) (hv : asc val) (h1 : w.cell? ⟨N, 1, none⟩ = some (.string val)) (h3 : w.cell? ⟨N, 3, none⟩ = some (.bool ic)) :
    FunRep w 202 #[.pointer (some ⟨N, 0, none⟩)] (fun s => incl ic val (s.size + 1) (L s)) where
  enters := fun _ _ => rfl
  calls := by
    intro s w' hs hb
    have f1 := cell_keep hb h1
    have f3 := cell_keep hb h3
    have HC := Lib.hid (include_any w' ic val s hv hs)
    clear hb hs hv h1 h3
    simp only [List.append_toArray, List.cons_append, List.nil_append]
    go_enter Tryz.func202, Tryz.ntmps202
    go_wp2_with (go_at_call 190; refine HC.out.mono ?_; rintro e w2 ⟨rfl, hb2⟩)
    go_ret
    exact ⟨rfl, hb2⟩

end Go.Proofs.YteaapgijeehhfaaGreatDoor

namespace Go.Proofs.YteaapgijeehhfaaGreatDoor
open Go.RowKit

set_option maxRecDepth 100000 in
set_option maxHeartbeats 4000000 in
theorem dashFun (w : World) (N M : Nat) (val : ByteArray) (ic : Bool) (hv : asc val) (h1 : w.cell? ⟨N, 0, none⟩ = some (.string val)) (h2 : w.cell? ⟨M, 0, none⟩ = some (.bool ic)) :
    FunRep w 207 #[.pointer (some ⟨N, 0, none⟩), .pointer (some ⟨M, 0, none⟩)] (dashP ic val) where
  enters := fun _ _ => rfl
  calls := by
    intro s w' hs hb
    have f1 := cell_keep hb h1
    have f2 := cell_keep hb h2
    have HS := Lib.hid hs
    have HV := Lib.hid hv
    have hsz := hs.2
    have hvz := hv.2
    clear hb hs hv h1 h2
    obtain ⟨R, hR⟩ : ∃ R, dashP ic val s = R := ⟨_, rfl⟩
    rw [hR]
    unfold dashP at hR
    obtain ⟨r1, hr1⟩ : ∃ r1, eqI ic s val = r1 := ⟨_, rfl⟩
    have HC := Lib.hid (eqI_any w' ic s val HS.out HV.out)
    rw [hr1] at hR HC
    clear hr1
    simp only [List.append_toArray, List.cons_append, List.nil_append]
    cases r1
    · simp only [Bool.false_eq_true, if_false] at hR
      by_cases hle : s.size ≤ val.size
      · rw [if_pos hle] at hR
        have HR := Lib.hid hR
        clear hR
        have hlei : (s.size : Int) ≤ (val.size : Int) := by omega
        go_enter Tryz.func207, Tryz.ntmps207
        go_wp2_with (go_at_call 192; refine HC.out.mono ?_; rintro e w2 ⟨rfl, rfl⟩)
        go_ret
        exact ⟨ret_bool HR.out, Below.refl _ _⟩
      · rw [if_neg hle] at hR
        have hlt : val.size < s.size := by omega
        have hlei : ¬ (s.size : Int) ≤ (val.size : Int) := by omega
        have hx : s.extract 0 val.size = bs ((L s).take val.size) := L_inj (by rw [L_extract, L_bs]; simp)
        have hax : asc (bs ((L s).take val.size)) := asc_sub HS.out (fun c hc => List.mem_of_mem_take hc) (by simp; omega)
        obtain ⟨r2, hr2⟩ : ∃ r2, eqI ic (bs ((L s).take val.size)) val = r2 := ⟨_, rfl⟩
        have heq : ∀ w', Calls Tryz.prog 192 #[.string (s.extract 0 val.size), .string val, .bool ic] w' fun e w'' => e = .returned (.bool r2) ∧ w'' = w' := fun w' => by rw [hx, ← hr2]; exact eqI_any w' ic _ val hax HV.out
        rw [hr2] at hR
        have hg : (L s).getD val.size 0 = s[val.size] := by rw [L_get s val.size hlt, List.getD_eq_getElem?_getD, List.getElem?_eq_getElem (by rw [L_len]; exact hlt)]; rfl
        rw [hg] at hR
        have HEQ := Lib.hid heq
        clear heq hax hr2 hx hg
        cases r2
        · have HR := Lib.hid hR
          clear hR
          go_enter Tryz.func207, Tryz.ntmps207
          go_wp2_with (go_at_call 192; refine HC.out.mono ?_; rintro e w2 ⟨rfl, rfl⟩)
          go_quiet ((go_at_call 192; exact Calls.quiet_of_same (HEQ.out _)))
          go_wp2_with fail
          go_ret
          exact ⟨ret_bool (by rw [← HR.out]; rfl), below_drewN (Below.refl _ _) _⟩
        · obtain ⟨r3, hr3⟩ : ∃ r3, ((s[val.size].toNat : Int) == 45) = r3 := ⟨_, rfl⟩
          have hR2 : r3 = R := by
            rw [← hR, ← hr3]
            by_cases h : s[val.size] = 45
            · simp [h]
            · have h2 : ¬ ((s[val.size].toNat : Int) = 45) := fun e => h (UInt8.toNat_inj.1 (by simp; omega))
              simp only [Bool.true_and, h, decide_false]
              simpa using h2
          have HR := Lib.hid hR2
          clear hR hR2
          go_enter Tryz.func207, Tryz.ntmps207
          go_wp2_with (go_at_call 192; refine HC.out.mono ?_; rintro e w2 ⟨rfl, rfl⟩)
          go_quiet ((go_at_call 192; exact Calls.quiet_of_same (HEQ.out _)))
          cases r3
          · go_wp2_with fail
            go_ret
            exact ⟨ret_bool HR.out, below_drewN (Below.refl _ _) _⟩
          · go_wp2_with fail
            go_ret
            exact ⟨ret_bool HR.out, below_drewN (Below.refl _ _) _⟩
    · simp only [if_true] at hR
      have HR := Lib.hid hR
      clear hR
      go_enter Tryz.func207, Tryz.ntmps207
      go_wp2_with (go_at_call 192; refine HC.out.mono ?_; rintro e w2 ⟨rfl, rfl⟩)
      go_ret
      exact ⟨ret_bool HR.out, Below.refl _ _⟩

end Go.Proofs.YteaapgijeehhfaaGreatDoor

namespace Go.Proofs.YteaapgijeehhfaaGreatDoor
open Go.RowKit

theorem lower_size (s : ByteArray) : (ByteArray.mk (Lib.toLowerA s.data.toList).toArray).size = s.size := by
  show (Lib.toLowerA s.data.toList).toArray.size = s.data.size
  simp [Lib.toLowerA]

set_option maxRecDepth 100000 in
set_option maxHeartbeats 4000000 in
theorem prefFun (T : Nat → Int) (w : World) (N M : Nat) (val : ByteArray) (ic : Bool) (hv : asc val) (hT : Tbl w T) (h1 : w.cell? ⟨N, 0, none⟩ = some (.bool ic)) (h2 : w.cell? ⟨M, 0, none⟩ = some (.string val)) :
    FunRep w 208 #[.pointer (some ⟨N, 0, none⟩), .pointer (some ⟨M, 0, none⟩)] (prefP T ic val) where
  enters := fun _ _ => rfl
  calls := by
    intro s w' hs hb
    have f1 := cell_keep hb h1
    have f2 := cell_keep hb h2
    have hT2 := hT.keep hb
    have HS := Lib.hid hs
    have HV := Lib.hid hv
    have hsz := hs.2
    have hvz := hv.2
    have HC := trim_any w' T s hs hT2
    clear hb hs hv h1 h2 hT hT2
    obtain ⟨R, hR⟩ : ∃ R, prefP T ic val s = R := ⟨_, rfl⟩
    rw [hR]
    unfold prefP at hR
    obtain ⟨r1, hr1⟩ : ∃ r1, trimE T s = r1 := ⟨_, rfl⟩
    rw [hr1] at hR HC
    clear hr1
    have HC := Lib.hid HC
    simp only [List.append_toArray, List.cons_append, List.nil_append]
    cases r1
    · simp only [Bool.false_eq_true, if_false] at hR
      cases ic
      · simp only [Bool.false_eq_true, if_false] at hR
        have HR := Lib.hid hR
        clear hR
        go_enter Tryz.func208, Tryz.ntmps208
        go_wp2_with (first | (go_at_call 209; refine HC.out.mono ?_; rintro e w2 ⟨u, rfl, hu, hb2⟩; have g1 := cell_keep hb2 f1; have g2 := cell_keep hb2 f2; have HB2 := Lib.hid hb2; clear hb2) | (go_at_call 77; refine (Tryz.strings_HasPrefix s val _).mono ?_; rintro e w3 ⟨rfl, rfl⟩))
        go_ret
        exact ⟨ret_bool HR.out, HB2.out⟩
      · simp only [if_true] at hR
        have HR := Lib.hid hR
        clear hR
        go_enter Tryz.func208, Tryz.ntmps208
        go_wp2_with (go_at_call 209; refine HC.out.mono ?_; rintro e w2 ⟨u, rfl, hu, hb2⟩; have g1 := cell_keep hb2 f1; have g2 := cell_keep hb2 f2; have HB2 := Lib.hid hb2; clear hb2)
        refine wp_region_held_drew (S := fun w5 => w5.cell? ⟨M, 0, none⟩ = some (.string val) ∧ Below w'.heap.size w' w5) (by kernel_rfl) ⟨g2, HB2.out.drew⟩ (fun hHeld => ?_)
        refine wpAnyH_take1 (i := 0) (d := 9) (v := .string s) rfl rfl (by kernel_rfl) (by kernel_rfl) (by kernel_rfl) (fun _ _ _ h => h) (Or.inl ⟨by kernel_rfl, fun w' hSw => (by go_simp)⟩) (by assumption) ?_
        simp only [List.setIfInBounds_toArray, List.set_cons_zero, List.set_cons_succ]
        refine wpAnyH_take1 (i := 2) (d := 11) (v := .string val) rfl rfl (by kernel_rfl) (by kernel_rfl) (by kernel_rfl) (fun _ _ _ h => h) (Or.inl ⟨by kernel_rfl, fun w' hSw => (by obtain ⟨h1, _⟩ := hSw; go_simp)⟩) (by assumption) ?_
        simp only [List.setIfInBounds_toArray, List.set_cons_zero, List.set_cons_succ]
        refine wpAnyH_enter (i := 1) (d := 10) (f := 93) (args := #[.string s]) rfl rfl (by kernel_rfl) (by kernel_rfl) (by go_simp) ((Tryz.strings_ToLower_ascii s _ (by omega) (asc_get HS.out)).mono ?_)
        rintro e w4 ⟨rfl, hb4⟩
        have g4 := cell_keep hb4 g2
        have hb5 := below_step HB2.out.drew hb4
        refine ⟨_, rfl, ⟨g4, hb5⟩, fun hHeld => ?_⟩
        simp only [List.setIfInBounds_toArray, List.set_cons_zero, List.set_cons_succ]
        refine wpAnyH_enter (i := 3) (d := 12) (f := 93) (args := #[.string val]) rfl rfl (by kernel_rfl) (by kernel_rfl) (by go_simp) ((Tryz.strings_ToLower_ascii val _ (by omega) (asc_get HV.out)).mono ?_)
        rintro e w6 ⟨rfl, hb6⟩
        have g6 := cell_keep hb6 g4
        have hb7 := below_step hb5 hb6
        refine ⟨_, rfl, ⟨g6, hb7⟩, fun hHeld => ?_⟩
        simp only [List.setIfInBounds_toArray, List.set_cons_zero, List.set_cons_succ]
        refine wpAnyH_enter (i := 4) (d := 13) (f := 77) (args := #[.string ⟨(Lib.toLowerA s.data.toList).toArray⟩, .string ⟨(Lib.toLowerA val.data.toList).toArray⟩]) rfl rfl (by kernel_rfl) (by kernel_rfl) (by go_simp) ((Tryz.strings_HasPrefix _ _ _).mono ?_)
        rintro e w8 ⟨rfl, rfl⟩
        refine ⟨_, rfl, ⟨g6, hb7⟩, fun hHeld => ?_⟩
        simp only [List.setIfInBounds_toArray, List.set_cons_zero, List.set_cons_succ]
        refine wpAnyH_take1 (i := 5) (d := 4) (v := .bool (Lib.hasPrefix (Lib.toLowerA (L s)) (Lib.toLowerA (L val)))) rfl rfl (by kernel_rfl) (by kernel_rfl) (by kernel_rfl) (fun _ _ _ h => h) (Or.inl ⟨by kernel_rfl, fun w' hSw => (by go_simp; rfl)⟩) (by assumption) ?_
        simp only [List.setIfInBounds_toArray, List.set_cons_zero, List.set_cons_succ]
        refine wpAnyH_done (by kernel_rfl) ?_ _
        go_wp2_with fail
        go_ret
        exact ⟨ret_bool HR.out, hb7⟩
    · simp only [if_true] at hR
      have HR := Lib.hid hR
      clear hR
      go_enter Tryz.func208, Tryz.ntmps208
      go_wp2_with (go_at_call 209; refine HC.out.mono ?_; rintro e w2 ⟨u, rfl, hu, hb2⟩; have HB2 := Lib.hid hb2; clear hb2)
      go_ret
      exact ⟨ret_bool HR.out, HB2.out⟩

set_option maxRecDepth 100000 in
set_option maxHeartbeats 4000000 in
theorem sufFun (T : Nat → Int) (w : World) (N M : Nat) (val : ByteArray) (ic : Bool) (hv : asc val) (hT : Tbl w T) (h1 : w.cell? ⟨N, 0, none⟩ = some (.bool ic)) (h2 : w.cell? ⟨M, 0, none⟩ = some (.string val)) :
    FunRep w 210 #[.pointer (some ⟨N, 0, none⟩), .pointer (some ⟨M, 0, none⟩)] (sufP T ic val) where
  enters := fun _ _ => rfl
  calls := by
    intro s w' hs hb
    have f1 := cell_keep hb h1
    have f2 := cell_keep hb h2
    have hT2 := hT.keep hb
    have HS := Lib.hid hs
    have HV := Lib.hid hv
    have hsz := hs.2
    have hvz := hv.2
    have HC := trim_any w' T s hs hT2
    clear hb hs hv h1 h2 hT hT2
    obtain ⟨R, hR⟩ : ∃ R, sufP T ic val s = R := ⟨_, rfl⟩
    rw [hR]
    unfold sufP at hR
    obtain ⟨r1, hr1⟩ : ∃ r1, trimE T s = r1 := ⟨_, rfl⟩
    rw [hr1] at hR HC
    clear hr1
    have HC := Lib.hid HC
    simp only [List.append_toArray, List.cons_append, List.nil_append]
    cases r1
    · simp only [Bool.false_eq_true, if_false] at hR
      cases ic
      · simp only [Bool.false_eq_true, if_false] at hR
        have HR := Lib.hid hR
        clear hR
        go_enter Tryz.func210, Tryz.ntmps210
        go_wp2_with (first | (go_at_call 209; refine HC.out.mono ?_; rintro e w2 ⟨u, rfl, hu, hb2⟩; have g1 := cell_keep hb2 f1; have g2 := cell_keep hb2 f2; have HB2 := Lib.hid hb2; clear hb2) | (go_at_call 211; refine (Tryz.strings_HasSuffix s val _ (by omega)).mono ?_; rintro e w3 ⟨rfl, rfl⟩))
        go_ret
        exact ⟨ret_bool HR.out, HB2.out⟩
      · simp only [if_true] at hR
        have HR := Lib.hid hR
        clear hR
        go_enter Tryz.func210, Tryz.ntmps210
        go_wp2_with (go_at_call 209; refine HC.out.mono ?_; rintro e w2 ⟨u, rfl, hu, hb2⟩; have g1 := cell_keep hb2 f1; have g2 := cell_keep hb2 f2; have HB2 := Lib.hid hb2; clear hb2)
        refine wp_region_held_drew (S := fun w5 => w5.cell? ⟨M, 0, none⟩ = some (.string val) ∧ Below w'.heap.size w' w5) (by kernel_rfl) ⟨g2, HB2.out.drew⟩ (fun hHeld => ?_)
        refine wpAnyH_take1 (i := 0) (d := 9) (v := .string s) rfl rfl (by kernel_rfl) (by kernel_rfl) (by kernel_rfl) (fun _ _ _ h => h) (Or.inl ⟨by kernel_rfl, fun w' hSw => (by go_simp)⟩) (by assumption) ?_
        simp only [List.setIfInBounds_toArray, List.set_cons_zero, List.set_cons_succ]
        refine wpAnyH_take1 (i := 2) (d := 11) (v := .string val) rfl rfl (by kernel_rfl) (by kernel_rfl) (by kernel_rfl) (fun _ _ _ h => h) (Or.inl ⟨by kernel_rfl, fun w' hSw => (by obtain ⟨h1, _⟩ := hSw; go_simp)⟩) (by assumption) ?_
        simp only [List.setIfInBounds_toArray, List.set_cons_zero, List.set_cons_succ]
        refine wpAnyH_enter (i := 1) (d := 10) (f := 93) (args := #[.string s]) rfl rfl (by kernel_rfl) (by kernel_rfl) (by go_simp) ((Tryz.strings_ToLower_ascii s _ (by omega) (asc_get HS.out)).mono ?_)
        rintro e w4 ⟨rfl, hb4⟩
        have g4 := cell_keep hb4 g2
        have hb5 := below_step HB2.out.drew hb4
        refine ⟨_, rfl, ⟨g4, hb5⟩, fun hHeld => ?_⟩
        simp only [List.setIfInBounds_toArray, List.set_cons_zero, List.set_cons_succ]
        refine wpAnyH_enter (i := 3) (d := 12) (f := 93) (args := #[.string val]) rfl rfl (by kernel_rfl) (by kernel_rfl) (by go_simp) ((Tryz.strings_ToLower_ascii val _ (by omega) (asc_get HV.out)).mono ?_)
        rintro e w6 ⟨rfl, hb6⟩
        have g6 := cell_keep hb6 g4
        have hb7 := below_step hb5 hb6
        refine ⟨_, rfl, ⟨g6, hb7⟩, fun hHeld => ?_⟩
        simp only [List.setIfInBounds_toArray, List.set_cons_zero, List.set_cons_succ]
        refine wpAnyH_enter (i := 4) (d := 13) (f := 211) (args := #[.string ⟨(Lib.toLowerA s.data.toList).toArray⟩, .string ⟨(Lib.toLowerA val.data.toList).toArray⟩]) rfl rfl (by kernel_rfl) (by kernel_rfl) (by go_simp) ((Tryz.strings_HasSuffix _ _ _ (by rw [lower_size]; omega)).mono ?_)
        rintro e w8 ⟨rfl, rfl⟩
        refine ⟨_, rfl, ⟨g6, hb7⟩, fun hHeld => ?_⟩
        simp only [List.setIfInBounds_toArray, List.set_cons_zero, List.set_cons_succ]
        refine wpAnyH_take1 (i := 5) (d := 4) (v := .bool (Lib.hasSuffix (Lib.toLowerA (L s)) (Lib.toLowerA (L val)))) rfl rfl (by kernel_rfl) (by kernel_rfl) (by kernel_rfl) (fun _ _ _ h => h) (Or.inl ⟨by kernel_rfl, fun w' hSw => (by go_simp; rfl)⟩) (by assumption) ?_
        simp only [List.setIfInBounds_toArray, List.set_cons_zero, List.set_cons_succ]
        refine wpAnyH_done (by kernel_rfl) ?_ _
        go_wp2_with fail
        go_ret
        exact ⟨ret_bool HR.out, hb7⟩
    · simp only [if_true] at hR
      have HR := Lib.hid hR
      clear hR
      go_enter Tryz.func210, Tryz.ntmps210
      go_wp2_with (go_at_call 209; refine HC.out.mono ?_; rintro e w2 ⟨u, rfl, hu, hb2⟩; have HB2 := Lib.hid hb2; clear hb2)
      go_ret
      exact ⟨ret_bool HR.out, HB2.out⟩

set_option maxRecDepth 100000 in
set_option maxHeartbeats 4000000 in
theorem subFun (T : Nat → Int) (w : World) (N M : Nat) (val : ByteArray) (ic : Bool) (hv : asc val) (hT : Tbl w T) (h1 : w.cell? ⟨N, 0, none⟩ = some (.bool ic)) (h2 : w.cell? ⟨M, 0, none⟩ = some (.string val)) :
    FunRep w 212 #[.pointer (some ⟨N, 0, none⟩), .pointer (some ⟨M, 0, none⟩)] (subP T ic val) where
  enters := fun _ _ => rfl
  calls := by
    intro s w' hs hb
    have f1 := cell_keep hb h1
    have f2 := cell_keep hb h2
    have hT2 := hT.keep hb
    have HS := Lib.hid hs
    have HV := Lib.hid hv
    have hsz := hs.2
    have hvz := hv.2
    have HC := trim_any w' T s hs hT2
    clear hb hs hv h1 h2 hT hT2
    obtain ⟨R, hR⟩ : ∃ R, subP T ic val s = R := ⟨_, rfl⟩
    rw [hR]
    unfold subP at hR
    obtain ⟨r1, hr1⟩ : ∃ r1, trimE T s = r1 := ⟨_, rfl⟩
    rw [hr1] at hR HC
    clear hr1
    have HC := Lib.hid HC
    simp only [List.append_toArray, List.cons_append, List.nil_append]
    cases r1
    · simp only [Bool.false_eq_true, if_false] at hR
      cases ic
      · simp only [Bool.false_eq_true, if_false] at hR
        have HR := Lib.hid hR
        clear hR
        go_enter Tryz.func212, Tryz.ntmps212
        go_wp2_with (first | (go_at_call 209; refine HC.out.mono ?_; rintro e w2 ⟨u, rfl, hu, hb2⟩; have g1 := cell_keep hb2 f1; have g2 := cell_keep hb2 f2; have HB2 := Lib.hid hb2; clear hb2) | (go_at_call 213; refine (contains_any _ s val (by omega) (by omega)).mono ?_; rintro e w3 ⟨rfl, rfl⟩))
        go_ret
        exact ⟨ret_bool HR.out, HB2.out⟩
      · simp only [if_true] at hR
        have HR := Lib.hid hR
        clear hR
        go_enter Tryz.func212, Tryz.ntmps212
        go_wp2_with (go_at_call 209; refine HC.out.mono ?_; rintro e w2 ⟨u, rfl, hu, hb2⟩; have g1 := cell_keep hb2 f1; have g2 := cell_keep hb2 f2; have HB2 := Lib.hid hb2; clear hb2)
        refine wp_region_held_drew (S := fun w5 => w5.cell? ⟨M, 0, none⟩ = some (.string val) ∧ Below w'.heap.size w' w5) (by kernel_rfl) ⟨g2, HB2.out.drew⟩ (fun hHeld => ?_)
        refine wpAnyH_take1 (i := 0) (d := 9) (v := .string s) rfl rfl (by kernel_rfl) (by kernel_rfl) (by kernel_rfl) (fun _ _ _ h => h) (Or.inl ⟨by kernel_rfl, fun w' hSw => (by go_simp)⟩) (by assumption) ?_
        simp only [List.setIfInBounds_toArray, List.set_cons_zero, List.set_cons_succ]
        refine wpAnyH_take1 (i := 2) (d := 11) (v := .string val) rfl rfl (by kernel_rfl) (by kernel_rfl) (by kernel_rfl) (fun _ _ _ h => h) (Or.inl ⟨by kernel_rfl, fun w' hSw => (by obtain ⟨h1, _⟩ := hSw; go_simp)⟩) (by assumption) ?_
        simp only [List.setIfInBounds_toArray, List.set_cons_zero, List.set_cons_succ]
        refine wpAnyH_enter (i := 1) (d := 10) (f := 93) (args := #[.string s]) rfl rfl (by kernel_rfl) (by kernel_rfl) (by go_simp) ((Tryz.strings_ToLower_ascii s _ (by omega) (asc_get HS.out)).mono ?_)
        rintro e w4 ⟨rfl, hb4⟩
        have g4 := cell_keep hb4 g2
        have hb5 := below_step HB2.out.drew hb4
        refine ⟨_, rfl, ⟨g4, hb5⟩, fun hHeld => ?_⟩
        simp only [List.setIfInBounds_toArray, List.set_cons_zero, List.set_cons_succ]
        refine wpAnyH_enter (i := 3) (d := 12) (f := 93) (args := #[.string val]) rfl rfl (by kernel_rfl) (by kernel_rfl) (by go_simp) ((Tryz.strings_ToLower_ascii val _ (by omega) (asc_get HV.out)).mono ?_)
        rintro e w6 ⟨rfl, hb6⟩
        have g6 := cell_keep hb6 g4
        have hb7 := below_step hb5 hb6
        refine ⟨_, rfl, ⟨g6, hb7⟩, fun hHeld => ?_⟩
        simp only [List.setIfInBounds_toArray, List.set_cons_zero, List.set_cons_succ]
        refine wpAnyH_enter (i := 4) (d := 13) (f := 213) (args := #[.string ⟨(Lib.toLowerA s.data.toList).toArray⟩, .string ⟨(Lib.toLowerA val.data.toList).toArray⟩]) rfl rfl (by kernel_rfl) (by kernel_rfl) (by go_simp) ((contains_any _ _ _ (by rw [lower_size]; omega) (by rw [lower_size]; omega)).mono ?_)
        rintro e w8 ⟨rfl, rfl⟩
        refine ⟨_, rfl, ⟨g6, hb7⟩, fun hHeld => ?_⟩
        simp only [List.setIfInBounds_toArray, List.set_cons_zero, List.set_cons_succ]
        refine wpAnyH_take1 (i := 5) (d := 4) (v := .bool (partFrom (Lib.toLowerA (L s)) (Lib.toLowerA (L val)) 0)) rfl rfl (by kernel_rfl) (by kernel_rfl) (by kernel_rfl) (fun _ _ _ h => h) (Or.inl ⟨by kernel_rfl, fun w' hSw => (by go_simp; rfl)⟩) (by assumption) ?_
        simp only [List.setIfInBounds_toArray, List.set_cons_zero, List.set_cons_succ]
        refine wpAnyH_done (by kernel_rfl) ?_ _
        go_wp2_with fail
        go_ret
        exact ⟨ret_bool HR.out, hb7⟩
    · simp only [if_true] at hR
      have HR := Lib.hid hR
      clear hR
      go_enter Tryz.func212, Tryz.ntmps212
      go_wp2_with (go_at_call 209; refine HC.out.mono ?_; rintro e w2 ⟨u, rfl, hu, hb2⟩; have HB2 := Lib.hid hb2; clear hb2)
      go_ret
      exact ⟨ret_bool HR.out, HB2.out⟩

end Go.Proofs.YteaapgijeehhfaaGreatDoor
