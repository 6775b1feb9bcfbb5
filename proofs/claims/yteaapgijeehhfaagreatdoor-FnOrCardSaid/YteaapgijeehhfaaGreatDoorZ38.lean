/- spec.write: how a selector of an attribute with a value is written; printed by genw2.py. -/
import Derived.Test.YteaapgijeehhfaaGreatDoorZ37
import Derived.Test.YteaapgijeehhfaaGreatDoorZ29
set_option linter.unusedSimpArgs false
set_option linter.unusedVariables false
namespace Go.Proofs.YteaapgijeehhfaaGreatDoor
open Go.RowKit

theorem wSm_val (wg : Group → List UInt8) (k : Int) (name value : ByteArray) (fold : Bool) (a b : Int) (last ofT : Bool) (subs : Group) (hk : 5 ≤ k ∧ k ≤ 10) :
    wSm wg (Simple.mk k name value fold a b last ofT subs) = 91 :: (L name ++ (opL k ++ (34 :: (L value ++ (34 :: ((if fold then [32, 105] else []) ++ [93])))))) := by
  unfold wSm
  show (if k = 0 then _ else _) = _
  rw [if_neg (by omega), if_neg (by show ¬ k = 1; omega), if_neg (by show ¬ k = 2; omega), if_neg (by show ¬ k = 3; omega), if_neg (by show ¬ k = 4; omega), if_neg (by show ¬ k = 11; omega), if_neg (by show ¬ k = 12; omega), if_neg (by show ¬ k = 13; omega), if_neg (by show ¬ k = 14; omega), if_neg (by show ¬ k = 15; omega)]
  rfl

set_option maxRecDepth 100000 in
set_option maxHeartbeats 4000000 in
theorem write_val_false (wg : Group → List UInt8) (w : World) (k : Int) (name value : ByteArray) (a b : Int) (last ofT : Bool) (subs : Group) (sa : Option Addr) (sc : Nat) (hk : 5 ≤ k ∧ k ≤ 10) (hn : name.size ≤ 12) (hv : value.size ≤ 40) :
    Calls Tryz.prog 28 #[.agg #[.int .i64 k, .string name, .string value, .bool false, .int .i64 a, .int .i64 b, .bool last, .bool ofT, .slice sa subs.length sc]] w fun e w' => e = .returned (.string (bs (wSm wg (Simple.mk k name value false a b last ofT subs)))) ∧ Below w.heap.size w w' := by
  have hsg := sign_any k hk.1 hk.2
  have hol := opL_len k
  have hw := wSm_val wg k name value false a b last ofT subs hk
  obtain ⟨sg, hsd⟩ : ∃ sg, bs (opL k) = sg := ⟨_, rfl⟩
  have hss : sg.size ≤ 2 := by rw [← hsd, bs_size]; exact hol
  rw [hsd] at hsg
  have HSG := Lib.hid hsg
  obtain ⟨R, hR⟩ : ∃ R, bs (wSm wg (Simple.mk k name value false a b last ofT subs)) = R := ⟨_, rfl⟩
  rw [hR]
  have HR := Lib.hid (show R = bs (91 :: (L name ++ (opL k ++ (34 :: (L value ++ (34 :: ((if false then [32, 105] else []) ++ [93]))))))) by rw [← hR, hw])
  have HSD := Lib.hid hsd
  have e0 : (k == 0) = false := by simp; omega
  have e1 : (k == 1) = false := by simp; omega
  have e2 : (k == 2) = false := by simp; omega
  have e3 : (k == 3) = false := by simp; omega
  have e4 : (k == 4) = false := by simp; omega
  have e16 : (k == 16) = false := by simp; omega
  have e12 : (k == 12) = false := by simp; omega
  have e13 : (k == 13) = false := by simp; omega
  have e14 : (k == 14) = false := by simp; omega
  have e15 : (k == 15) = false := by simp; omega
  have e11 : (k == 11) = false := by simp; omega
  clear hsg hol hw hsd hR hk
  go_enter Tryz.func28, Tryz.ntmps28
  go_wp2_with fail
  refine wp_region_held_drew (S := fun w' => w'.heap[w.heap.size]? = some (.cells #[.int .i64 k, .string name, .string value, .bool false, .int .i64 a, .int .i64 b, .bool last, .bool ofT, .slice sa subs.length sc] 69 (0, 0))) (by kernel_rfl) (by exact heap_alloc_new w (.cells #[.int .i64 k, .string name, .string value, .bool false, .int .i64 a, .int .i64 b, .bool last, .bool ofT, .slice sa subs.length sc] 69)) (fun hHeld => ?_)
  refine wpAnyH_take1 (i := 0) (d := 91) (v := .pointer (some ⟨w.heap.size, 1, none⟩)) rfl rfl (by kernel_rfl) (by kernel_rfl) (by kernel_rfl) (fun _ _ _ h => h) (Or.inl ⟨by kernel_rfl, fun w' hSw => (by go_simp)⟩) (by assumption) ?_
  simp only [List.setIfInBounds_toArray, List.set_cons_zero, List.set_cons_succ]
  refine wpAnyH_take1 (i := 1) (d := 92) (v := .string name) rfl rfl (by kernel_rfl) (by kernel_rfl) (by kernel_rfl) (fun _ _ _ h => h) (Or.inl ⟨by kernel_rfl, fun w' hSw => (by have h1 := cell_of_heap hSw 1; go_simp)⟩) (by assumption) ?_
  simp only [List.setIfInBounds_toArray, List.set_cons_zero, List.set_cons_succ]
  refine wpAnyH_take1 (i := 2) (d := 93) (v := .string (⟨#[91]⟩ ++ name)) rfl rfl (by kernel_rfl) (by kernel_rfl) (by kernel_rfl) (fun _ _ _ h => h) (Or.inl ⟨by kernel_rfl, fun w' hSw => (by go_simp <;> omega)⟩) (by assumption) ?_
  simp only [List.setIfInBounds_toArray, List.set_cons_zero, List.set_cons_succ]
  refine wpAnyH_take1 (i := 3) (d := 94) (v := .pointer (some ⟨w.heap.size, 0, none⟩)) rfl rfl (by kernel_rfl) (by kernel_rfl) (by kernel_rfl) (fun _ _ _ h => h) (Or.inl ⟨by kernel_rfl, fun w' hSw => (by go_simp)⟩) (by assumption) ?_
  simp only [List.setIfInBounds_toArray, List.set_cons_zero, List.set_cons_succ]
  refine wpAnyH_take1 (i := 4) (d := 95) (v := .int .i64 k) rfl rfl (by kernel_rfl) (by kernel_rfl) (by kernel_rfl) (fun _ _ _ h => h) (Or.inl ⟨by kernel_rfl, fun w' hSw => (by have h1 := cell_of_heap hSw 0; go_simp)⟩) (by assumption) ?_
  simp only [List.setIfInBounds_toArray, List.set_cons_zero, List.set_cons_succ]
  refine wpAnyH_take1 (i := 8) (d := 99) (v := .pointer (some ⟨w.heap.size, 2, none⟩)) rfl rfl (by kernel_rfl) (by kernel_rfl) (by kernel_rfl) (fun _ _ _ h => h) (Or.inl ⟨by kernel_rfl, fun w' hSw => (by go_simp)⟩) (by assumption) ?_
  simp only [List.setIfInBounds_toArray, List.set_cons_zero, List.set_cons_succ]
  refine wpAnyH_take1 (i := 9) (d := 100) (v := .string value) rfl rfl (by kernel_rfl) (by kernel_rfl) (by kernel_rfl) (fun _ _ _ h => h) (Or.inl ⟨by kernel_rfl, fun w' hSw => (by have h1 := cell_of_heap hSw 2; go_simp)⟩) (by assumption) ?_
  simp only [List.setIfInBounds_toArray, List.set_cons_zero, List.set_cons_succ]
  refine wpAnyH_take1 (i := 12) (d := 103) (v := .string ⟨#[]⟩) rfl rfl (by kernel_rfl) (by kernel_rfl) (by kernel_rfl) (fun _ _ _ h => h) (Or.inl ⟨by kernel_rfl, fun w' hSw => (by go_simp)⟩) (by assumption) ?_
  simp only [List.setIfInBounds_toArray, List.set_cons_zero, List.set_cons_succ]
  refine wpAnyH_one (i := 5) (by kernel_rfl) (wpOp_enter (f := 41) (args := #[.int .i64 k]) rfl (by kernel_rfl) rfl (by go_simp) ((HSG.out _).mono ?_))
  rintro e w3 ⟨rfl, hb3⟩
  have hS3 := heap_keep hb3 hHeld
  have hb4 := below_step (below_alloc w _).drew hb3
  refine ⟨_, rfl, hS3, ?_⟩
  simp only [List.setIfInBounds_toArray, List.set_cons_zero, List.set_cons_succ]
  refine wpAnyH_take1 (i := 6) (d := 97) (v := .string (⟨#[91]⟩ ++ name ++ sg)) rfl rfl (by kernel_rfl) (by kernel_rfl) (by kernel_rfl) (fun _ _ _ h => h) (Or.inl ⟨by kernel_rfl, fun w' hSw => (by go_simp <;> omega)⟩) (by assumption) ?_
  simp only [List.setIfInBounds_toArray, List.set_cons_zero, List.set_cons_succ]
  refine wpAnyH_take1 (i := 7) (d := 98) (v := .string (⟨#[91]⟩ ++ name ++ sg ++ ⟨#[34]⟩)) rfl rfl (by kernel_rfl) (by kernel_rfl) (by kernel_rfl) (fun _ _ _ h => h) (Or.inl ⟨by kernel_rfl, fun w' hSw => (by go_simp <;> omega)⟩) (by assumption) ?_
  simp only [List.setIfInBounds_toArray, List.set_cons_zero, List.set_cons_succ]
  refine wpAnyH_take1 (i := 10) (d := 101) (v := .string (⟨#[91]⟩ ++ name ++ sg ++ ⟨#[34]⟩ ++ value)) rfl rfl (by kernel_rfl) (by kernel_rfl) (by kernel_rfl) (fun _ _ _ h => h) (Or.inl ⟨by kernel_rfl, fun w' hSw => (by go_simp <;> omega)⟩) (by assumption) ?_
  simp only [List.setIfInBounds_toArray, List.set_cons_zero, List.set_cons_succ]
  refine wpAnyH_take1 (i := 11) (d := 102) (v := .string (⟨#[91]⟩ ++ name ++ sg ++ ⟨#[34]⟩ ++ value ++ ⟨#[34]⟩)) rfl rfl (by kernel_rfl) (by kernel_rfl) (by kernel_rfl) (fun _ _ _ h => h) (Or.inl ⟨by kernel_rfl, fun w' hSw => (by go_simp <;> omega)⟩) (by assumption) ?_
  simp only [List.setIfInBounds_toArray, List.set_cons_zero, List.set_cons_succ]
  refine wpAnyH_take1 (i := 13) (d := 104) (v := .string (⟨#[91]⟩ ++ name ++ sg ++ ⟨#[34]⟩ ++ value ++ ⟨#[34]⟩ ++ ⟨#[]⟩)) rfl rfl (by kernel_rfl) (by kernel_rfl) (by kernel_rfl) (fun _ _ _ h => h) (Or.inl ⟨by kernel_rfl, fun w' hSw => (by go_simp <;> omega)⟩) (by assumption) ?_
  simp only [List.setIfInBounds_toArray, List.set_cons_zero, List.set_cons_succ]
  refine wpAnyH_take1 (i := 14) (d := 105) (v := .string (⟨#[91]⟩ ++ name ++ sg ++ ⟨#[34]⟩ ++ value ++ ⟨#[34]⟩ ++ ⟨#[]⟩ ++ ⟨#[93]⟩)) rfl rfl (by kernel_rfl) (by kernel_rfl) (by kernel_rfl) (fun _ _ _ h => h) (Or.inl ⟨by kernel_rfl, fun w' hSw => (by go_simp <;> omega)⟩) (by assumption) ?_
  simp only [List.setIfInBounds_toArray, List.set_cons_zero, List.set_cons_succ]
  refine wpAnyH_take1 (i := 15) (d := 2) (v := .string (⟨#[91]⟩ ++ name ++ sg ++ ⟨#[34]⟩ ++ value ++ ⟨#[34]⟩ ++ ⟨#[]⟩ ++ ⟨#[93]⟩)) rfl rfl (by kernel_rfl) (by kernel_rfl) (by kernel_rfl) (fun _ _ _ h => h) (Or.inl ⟨by kernel_rfl, fun w' hSw => (by go_simp)⟩) (by assumption) ?_
  simp only [List.setIfInBounds_toArray, List.set_cons_zero, List.set_cons_succ]
  refine wpAnyH_done (by kernel_rfl) ?_ _
  go_wp2_with fail
  go_ret
  refine ⟨ret_str ?_, hb4⟩
  rw [HR.out, ← HSD.out]
  exact L_inj (by simp only [L_append, L_bs, List.append_assoc]; rfl)

set_option maxRecDepth 100000 in
set_option maxHeartbeats 4000000 in
theorem write_val_true (wg : Group → List UInt8) (w : World) (k : Int) (name value : ByteArray) (a b : Int) (last ofT : Bool) (subs : Group) (sa : Option Addr) (sc : Nat) (hk : 5 ≤ k ∧ k ≤ 10) (hn : name.size ≤ 12) (hv : value.size ≤ 40) :
    Calls Tryz.prog 28 #[.agg #[.int .i64 k, .string name, .string value, .bool true, .int .i64 a, .int .i64 b, .bool last, .bool ofT, .slice sa subs.length sc]] w fun e w' => e = .returned (.string (bs (wSm wg (Simple.mk k name value true a b last ofT subs)))) ∧ Below w.heap.size w w' := by
  have hsg := sign_any k hk.1 hk.2
  have hol := opL_len k
  have hw := wSm_val wg k name value true a b last ofT subs hk
  obtain ⟨sg, hsd⟩ : ∃ sg, bs (opL k) = sg := ⟨_, rfl⟩
  have hss : sg.size ≤ 2 := by rw [← hsd, bs_size]; exact hol
  rw [hsd] at hsg
  have HSG := Lib.hid hsg
  obtain ⟨R, hR⟩ : ∃ R, bs (wSm wg (Simple.mk k name value true a b last ofT subs)) = R := ⟨_, rfl⟩
  rw [hR]
  have HR := Lib.hid (show R = bs (91 :: (L name ++ (opL k ++ (34 :: (L value ++ (34 :: ((if true then [32, 105] else []) ++ [93]))))))) by rw [← hR, hw])
  have HSD := Lib.hid hsd
  have e0 : (k == 0) = false := by simp; omega
  have e1 : (k == 1) = false := by simp; omega
  have e2 : (k == 2) = false := by simp; omega
  have e3 : (k == 3) = false := by simp; omega
  have e4 : (k == 4) = false := by simp; omega
  have e16 : (k == 16) = false := by simp; omega
  have e12 : (k == 12) = false := by simp; omega
  have e13 : (k == 13) = false := by simp; omega
  have e14 : (k == 14) = false := by simp; omega
  have e15 : (k == 15) = false := by simp; omega
  have e11 : (k == 11) = false := by simp; omega
  clear hsg hol hw hsd hR hk
  go_enter Tryz.func28, Tryz.ntmps28
  go_wp2_with fail
  refine wp_region_held_drew (S := fun w' => w'.heap[w.heap.size]? = some (.cells #[.int .i64 k, .string name, .string value, .bool true, .int .i64 a, .int .i64 b, .bool last, .bool ofT, .slice sa subs.length sc] 69 (0, 0))) (by kernel_rfl) (by exact heap_alloc_new w (.cells #[.int .i64 k, .string name, .string value, .bool true, .int .i64 a, .int .i64 b, .bool last, .bool ofT, .slice sa subs.length sc] 69)) (fun hHeld => ?_)
  refine wpAnyH_take1 (i := 0) (d := 91) (v := .pointer (some ⟨w.heap.size, 1, none⟩)) rfl rfl (by kernel_rfl) (by kernel_rfl) (by kernel_rfl) (fun _ _ _ h => h) (Or.inl ⟨by kernel_rfl, fun w' hSw => (by go_simp)⟩) (by assumption) ?_
  simp only [List.setIfInBounds_toArray, List.set_cons_zero, List.set_cons_succ]
  refine wpAnyH_take1 (i := 1) (d := 92) (v := .string name) rfl rfl (by kernel_rfl) (by kernel_rfl) (by kernel_rfl) (fun _ _ _ h => h) (Or.inl ⟨by kernel_rfl, fun w' hSw => (by have h1 := cell_of_heap hSw 1; go_simp)⟩) (by assumption) ?_
  simp only [List.setIfInBounds_toArray, List.set_cons_zero, List.set_cons_succ]
  refine wpAnyH_take1 (i := 2) (d := 93) (v := .string (⟨#[91]⟩ ++ name)) rfl rfl (by kernel_rfl) (by kernel_rfl) (by kernel_rfl) (fun _ _ _ h => h) (Or.inl ⟨by kernel_rfl, fun w' hSw => (by go_simp <;> omega)⟩) (by assumption) ?_
  simp only [List.setIfInBounds_toArray, List.set_cons_zero, List.set_cons_succ]
  refine wpAnyH_take1 (i := 3) (d := 94) (v := .pointer (some ⟨w.heap.size, 0, none⟩)) rfl rfl (by kernel_rfl) (by kernel_rfl) (by kernel_rfl) (fun _ _ _ h => h) (Or.inl ⟨by kernel_rfl, fun w' hSw => (by go_simp)⟩) (by assumption) ?_
  simp only [List.setIfInBounds_toArray, List.set_cons_zero, List.set_cons_succ]
  refine wpAnyH_take1 (i := 4) (d := 95) (v := .int .i64 k) rfl rfl (by kernel_rfl) (by kernel_rfl) (by kernel_rfl) (fun _ _ _ h => h) (Or.inl ⟨by kernel_rfl, fun w' hSw => (by have h1 := cell_of_heap hSw 0; go_simp)⟩) (by assumption) ?_
  simp only [List.setIfInBounds_toArray, List.set_cons_zero, List.set_cons_succ]
  refine wpAnyH_take1 (i := 8) (d := 99) (v := .pointer (some ⟨w.heap.size, 2, none⟩)) rfl rfl (by kernel_rfl) (by kernel_rfl) (by kernel_rfl) (fun _ _ _ h => h) (Or.inl ⟨by kernel_rfl, fun w' hSw => (by go_simp)⟩) (by assumption) ?_
  simp only [List.setIfInBounds_toArray, List.set_cons_zero, List.set_cons_succ]
  refine wpAnyH_take1 (i := 9) (d := 100) (v := .string value) rfl rfl (by kernel_rfl) (by kernel_rfl) (by kernel_rfl) (fun _ _ _ h => h) (Or.inl ⟨by kernel_rfl, fun w' hSw => (by have h1 := cell_of_heap hSw 2; go_simp)⟩) (by assumption) ?_
  simp only [List.setIfInBounds_toArray, List.set_cons_zero, List.set_cons_succ]
  refine wpAnyH_take1 (i := 12) (d := 103) (v := .string ⟨#[32, 105]⟩) rfl rfl (by kernel_rfl) (by kernel_rfl) (by kernel_rfl) (fun _ _ _ h => h) (Or.inl ⟨by kernel_rfl, fun w' hSw => (by go_simp)⟩) (by assumption) ?_
  simp only [List.setIfInBounds_toArray, List.set_cons_zero, List.set_cons_succ]
  refine wpAnyH_one (i := 5) (by kernel_rfl) (wpOp_enter (f := 41) (args := #[.int .i64 k]) rfl (by kernel_rfl) rfl (by go_simp) ((HSG.out _).mono ?_))
  rintro e w3 ⟨rfl, hb3⟩
  have hS3 := heap_keep hb3 hHeld
  have hb4 := below_step (below_alloc w _).drew hb3
  refine ⟨_, rfl, hS3, ?_⟩
  simp only [List.setIfInBounds_toArray, List.set_cons_zero, List.set_cons_succ]
  refine wpAnyH_take1 (i := 6) (d := 97) (v := .string (⟨#[91]⟩ ++ name ++ sg)) rfl rfl (by kernel_rfl) (by kernel_rfl) (by kernel_rfl) (fun _ _ _ h => h) (Or.inl ⟨by kernel_rfl, fun w' hSw => (by go_simp <;> omega)⟩) (by assumption) ?_
  simp only [List.setIfInBounds_toArray, List.set_cons_zero, List.set_cons_succ]
  refine wpAnyH_take1 (i := 7) (d := 98) (v := .string (⟨#[91]⟩ ++ name ++ sg ++ ⟨#[34]⟩)) rfl rfl (by kernel_rfl) (by kernel_rfl) (by kernel_rfl) (fun _ _ _ h => h) (Or.inl ⟨by kernel_rfl, fun w' hSw => (by go_simp <;> omega)⟩) (by assumption) ?_
  simp only [List.setIfInBounds_toArray, List.set_cons_zero, List.set_cons_succ]
  refine wpAnyH_take1 (i := 10) (d := 101) (v := .string (⟨#[91]⟩ ++ name ++ sg ++ ⟨#[34]⟩ ++ value)) rfl rfl (by kernel_rfl) (by kernel_rfl) (by kernel_rfl) (fun _ _ _ h => h) (Or.inl ⟨by kernel_rfl, fun w' hSw => (by go_simp <;> omega)⟩) (by assumption) ?_
  simp only [List.setIfInBounds_toArray, List.set_cons_zero, List.set_cons_succ]
  refine wpAnyH_take1 (i := 11) (d := 102) (v := .string (⟨#[91]⟩ ++ name ++ sg ++ ⟨#[34]⟩ ++ value ++ ⟨#[34]⟩)) rfl rfl (by kernel_rfl) (by kernel_rfl) (by kernel_rfl) (fun _ _ _ h => h) (Or.inl ⟨by kernel_rfl, fun w' hSw => (by go_simp <;> omega)⟩) (by assumption) ?_
  simp only [List.setIfInBounds_toArray, List.set_cons_zero, List.set_cons_succ]
  refine wpAnyH_take1 (i := 13) (d := 104) (v := .string (⟨#[91]⟩ ++ name ++ sg ++ ⟨#[34]⟩ ++ value ++ ⟨#[34]⟩ ++ ⟨#[32, 105]⟩)) rfl rfl (by kernel_rfl) (by kernel_rfl) (by kernel_rfl) (fun _ _ _ h => h) (Or.inl ⟨by kernel_rfl, fun w' hSw => (by go_simp <;> omega)⟩) (by assumption) ?_
  simp only [List.setIfInBounds_toArray, List.set_cons_zero, List.set_cons_succ]
  refine wpAnyH_take1 (i := 14) (d := 105) (v := .string (⟨#[91]⟩ ++ name ++ sg ++ ⟨#[34]⟩ ++ value ++ ⟨#[34]⟩ ++ ⟨#[32, 105]⟩ ++ ⟨#[93]⟩)) rfl rfl (by kernel_rfl) (by kernel_rfl) (by kernel_rfl) (fun _ _ _ h => h) (Or.inl ⟨by kernel_rfl, fun w' hSw => (by go_simp <;> omega)⟩) (by assumption) ?_
  simp only [List.setIfInBounds_toArray, List.set_cons_zero, List.set_cons_succ]
  refine wpAnyH_take1 (i := 15) (d := 2) (v := .string (⟨#[91]⟩ ++ name ++ sg ++ ⟨#[34]⟩ ++ value ++ ⟨#[34]⟩ ++ ⟨#[32, 105]⟩ ++ ⟨#[93]⟩)) rfl rfl (by kernel_rfl) (by kernel_rfl) (by kernel_rfl) (fun _ _ _ h => h) (Or.inl ⟨by kernel_rfl, fun w' hSw => (by go_simp)⟩) (by assumption) ?_
  simp only [List.setIfInBounds_toArray, List.set_cons_zero, List.set_cons_succ]
  refine wpAnyH_done (by kernel_rfl) ?_ _
  go_wp2_with fail
  go_ret
  refine ⟨ret_str ?_, hb4⟩
  rw [HR.out, ← HSD.out]
  exact L_inj (by simp only [L_append, L_bs, List.append_assoc]; rfl)

/-- spec.write, all kinds. -/
theorem write_any (wg : Group → List UInt8) (og : Group → Prop) (w : World) (s : Simple) (sa : Option Addr) (sc : Nat) (hok : okSm og s) (hB : ∀ g, og g → (wg g).length ≤ 1000000000)
    (hW : og s.subs → ∀ w', Below w.heap.size w w' → Calls Tryz.prog 13 #[.slice sa s.subs.length sc] w' fun e w'' => e = .returned (.string (bs (wg s.subs))) ∧ Below w'.heap.size w' w'') :
    Calls Tryz.prog 28 #[.agg #[.int .i64 s.kind, .string s.name, .string s.value, .bool s.fold, .int .i64 s.a, .int .i64 s.b, .bool s.last, .bool s.ofType, .slice sa s.subs.length sc]] w
      fun e w' => e = .returned (.string (bs (wSm wg s))) ∧ Below w.heap.size w w' := by
  obtain ⟨k, name, value, fold, a, b, last, ofT, subs⟩ := s
  have hk : 0 ≤ k ∧ k ≤ 16 := hok.kind
  have hn : ∀ (_ : k ≠ 1) (_ : k ≠ 11) (_ : k ≠ 12) (_ : k ≠ 13) (_ : k ≠ 14) (_ : k ≠ 15), name.size ≤ 12 := fun h1 h2 h3 h4 h5 h6 => by have := name_len (hok.name h1 h2 h3 h4 h5 h6); rwa [L_len] at this
  have hv : (5 ≤ k ∧ k ≤ 10) ∨ k = 16 → value.size ≤ 40 := fun h => by have := value_len (hok.value h); rwa [L_len] at this
  have hf : fold = true → 5 ≤ k ∧ k ≤ 10 := hok.fold
  have hs : k = 14 ∨ k = 15 → og subs := hok.subs
  have hnt : k = 11 → -9 ≤ a ∧ a ≤ 9 ∧ -9 ≤ b ∧ b ≤ 9 := hok.nth
  by_cases h5 : 5 ≤ k ∧ k ≤ 10
  · cases fold
    · exact write_val_false wg w k name value a b last ofT subs sa sc h5 (hn (by omega) (by omega) (by omega) (by omega) (by omega) (by omega)) (hv (.inl h5))
    · exact write_val_true wg w k name value a b last ofT subs sa sc h5 (hn (by omega) (by omega) (by omega) (by omega) (by omega) (by omega)) (hv (.inl h5))
  obtain rfl | rfl | rfl | rfl | rfl | rfl | rfl | rfl | rfl | rfl | rfl : k = 0 ∨ k = 1 ∨ k = 2 ∨ k = 3 ∨ k = 4 ∨ k = 11 ∨ k = 12 ∨ k = 13 ∨ k = 14 ∨ k = 15 ∨ k = 16 := by omega
  · exact write_0 wg w name value fold a b last ofT subs sa sc
  · exact write_1 wg w name value fold a b last ofT subs sa sc
  · exact write_2 wg w name value fold a b last ofT subs sa sc (hn (by omega) (by omega) (by omega) (by omega) (by omega) (by omega))
  · exact write_3 wg w name value fold a b last ofT subs sa sc (hn (by omega) (by omega) (by omega) (by omega) (by omega) (by omega))
  · exact write_4 wg w name value fold a b last ofT subs sa sc (hn (by omega) (by omega) (by omega) (by omega) (by omega) (by omega))
  · exact write_11 wg w name value fold a b last ofT subs sa sc (hnt rfl)
  · exact write_12 wg w name value fold a b last ofT subs sa sc
  · exact write_13 wg w name value fold a b last ofT subs sa sc
  · exact write_14 wg w name value fold a b last ofT subs sa sc (hB _ (hs (.inl rfl))) (hW (hs (.inl rfl)))
  · exact write_15 wg w name value fold a b last ofT subs sa sc (hB _ (hs (.inr rfl))) (hW (hs (.inr rfl)))
  · have hff : fold = false := by cases fold with | false => rfl | true => exact absurd (hf rfl) h5
    subst hff
    exact write_16 wg w name value a b last ofT subs sa sc (hn (by omega) (by omega) (by omega) (by omega) (by omega) (by omega)) (hv (.inr rfl))

end Go.Proofs.YteaapgijeehhfaaGreatDoor
