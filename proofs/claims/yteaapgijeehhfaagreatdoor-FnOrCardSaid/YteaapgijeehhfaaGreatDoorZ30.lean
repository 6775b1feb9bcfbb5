/- laws.group copies a group of selectors. -/
import Derived.Test.YteaapgijeehhfaaGreatDoorZ28
import Derived.Test.YteaapgijeehhfaaGreatDoorZ29
import Derived.Test.YteaapgijeehhfaaGreatDoorZ19
import Derived.Test.YteaapgijeehhfaaGreatDoorZ27
set_option linter.unusedSimpArgs false
set_option linter.unusedVariables false
namespace Go.Proofs.YteaapgijeehhfaaGreatDoor
open Go.RowKit

theorem info69 : (Tryz.prog.info? 69).map (fun i => (i.zero, i.size, i.bytes)) = some (some (.agg #[.int .i64 0, .string ⟨#[]⟩, .string ⟨#[]⟩, .bool false, .int .i64 0, .int .i64 0, .bool false, .bool false, .slice none 0 0]), 9, 96) := by kernel_rfl
theorem info67 : (Tryz.prog.info? 67).map (fun i => (i.zero, i.size, i.bytes)) = some (some (.agg #[.string ⟨#[]⟩, .slice none 0 0]), 2, 40) := by kernel_rfl
theorem info64 : (Tryz.prog.info? 64).map (fun i => (i.zero, i.size, i.bytes)) = some (some (.slice none 0 0), 1, 24) := by kernel_rfl

def GroupPost (d : Nat) (w : World) (g : Group) (e : Ending) (w' : World) : Prop :=
  ∃ a n c, e = .returned (.slice a n c) ∧ RG d (fun k => w.heap.size ≤ k) w' (.slice a n c) g ∧ Below w.heap.size w w'

set_option maxRecDepth 100000 in
set_option maxHeartbeats 4000000 in
theorem group_any (d : Nat) : ∀ (X : Nat → Prop) (w : World) (v : Value) (g : Group), RGI d X w v g → Calls Tryz.prog 22 #[v] w (GroupPost d w g) := by
  induction d with
  | zero => intro _ _ _ _ h; exact h.elim
  | succ d IH =>
    intro X w v g h
    have HV := Lib.hid (SlI.view h (by omega))
    have HE := ECx.rep (RG.rep d)
    have HE2 := ECp.rep (RG.rep d)
    have HE3 := ESm.rep (RG.rep d)
    obtain ⟨a, cap, hv, hgl⟩ := SlI.len h (by omega)
    clear h
    subst hv
    go_enter Tryz.func22, Tryz.ntmps22
    go_wp2_with fail
    go_loopw [3, 15] (fun out i wr => ∃ k : Nat, k ≤ g.length ∧ i = .int .i64 k ∧ OwnRep w.heap.size 64 1 24 (ECx (RG d)) wr out (g.take k) ∧ Below w.heap.size w wr) (fun _ i _ => g.length - (intOf i).toNat)
    case atStart => exact ⟨0, Nat.zero_le _, rfl, OwnRep.made0 _ (Nat.le_refl _), (Below.refl _ _).alloc (Nat.le_refl _) _⟩
    case round =>
      obtain ⟨k, hk, rfl, hown, hb⟩ := hrel
      by_cases hlt : k < g.length
      · rcases HV.out with ⟨rfl, _⟩ | ⟨b, o, cap', hve, hX, _, hcb, hpos, hc⟩
        · simp at hlt
        · simp only [Value.slice.injEq, true_and] at hve
          obtain ⟨rfl, rfl⟩ := hve
          obtain ⟨cs, hcs1, hcs2, c, hcs3, hSl⟩ := hc k hlt
          subst hcs3
          have h0 : wr.cell? ⟨b, o + k, none⟩ = some c := cell_keep hb (by simpa using hcs2 0 c rfl)
          clear hcs1 hcs2 hc
          obtain ⟨c, hcd⟩ : ∃ c, g[k] = c := ⟨_, rfl⟩
          rw [hcd] at hSl
          have HC := Lib.hid hcd
          clear hcd
          obtain ⟨a2, cap2, rfl, hcl⟩ := SlI.len hSl (by omega)
          have HV2 := Lib.hid (SlI.view hSl (by omega))
          clear hSl
          go_wp2_with fail
          obtain ⟨wo, rfl⟩ : ∃ wo : World, wo = wr := ⟨_, rfl⟩
          go_loopw [6, 22] (fun x i wm => ∃ k2 : Nat, k2 ≤ c.length ∧ i = .int .i64 k2 ∧ OwnRep wo.heap.size 67 2 40 (ECp (RG d)) wm x (c.take k2) ∧ Below wo.heap.size wo wm) (fun _ i _ => c.length - (intOf i).toNat)
          case atStart => exact ⟨0, Nat.zero_le _, rfl, OwnRep.made0 _ (Nat.le_refl _), (Below.refl _ _).alloc (Nat.le_refl _) _⟩
          case round =>
            obtain ⟨k2, hk2, rfl, hown2, hb2⟩ := hrel
            obtain ⟨xa, xc, rfl⟩ := hown2.val k2 (take_len hk2)
            obtain ⟨oa, oc, hoe⟩ := hown.val k (take_len hk)
            subst hoe
            have hs2 := hb2.size
            by_cases hlt2 : k2 < c.length
            · rcases HV2.out with ⟨rfl, _⟩ | ⟨b2, o2, cap2', hve2, hX2, _, hcb2, hpos2, hc2⟩
              · simp at hlt2
              · simp only [Value.slice.injEq, true_and] at hve2
                obtain ⟨rfl, rfl⟩ := hve2
                obtain ⟨cs2, hcs21, hcs22, pv, hcs23, hpsz, hSl3⟩ := hc2 k2 hlt2
                subst hcs23
                have h20 := cell_keep (hb.trans (hb2.mono hb.size)) (by simpa using hcs22 0 _ rfl)
                have h21 := cell_keep (hb.trans (hb2.mono hb.size)) (by simpa using hcs22 1 _ rfl)
                clear hcs21 hcs22 hc2
                obtain ⟨p, hpd⟩ : ∃ p, c[k2] = p := ⟨_, rfl⟩
                rw [hpd] at hSl3 hpsz h20
                have HP := Lib.hid hpd
                clear hpd
                obtain ⟨a3, cap3, rfl, hpl⟩ := SlI.len hSl3 (by omega)
                have HV3 := Lib.hid (SlI.view hSl3 (by omega))
                clear hSl3
                have hsw := hb.size
                go_wp2_with fail
                obtain ⟨wi, rfl⟩ : ∃ wi : World, wi = wr := ⟨_, rfl⟩
                go_loopw [32] (fun i wn => ∃ k3 : Nat, k3 ≤ p.2.length ∧ i = .int .i64 k3 ∧ (∃ va vn vc, wn.heap[wi.heap.size + 1]? = some (.cells #[.string p.1, .slice va vn vc] 67 (0, 0)) ∧
                    OwnRep (wi.heap.size + 2) 69 9 96 (ESm (RG d)) wn (.slice va vn vc) (p.2.take k3)) ∧ Below wi.heap.size wi wn) (fun i _ => p.2.length - (intOf i).toNat)
                case atStart => exact ⟨0, Nat.zero_le _, rfl, ⟨none, 0, 0, by have := heap_alloc_new (wi.alloc (.cells #[.string p.1, .slice a3 p.2.length cap3] 82)) (.cells #[.string p.1, .slice none 0 0] 67); simpa using this, OwnRep.nil _ _ _ _ _ _⟩, ((Below.refl _ _).alloc (Nat.le_refl _) _).alloc (by simp) _⟩
                case round =>
                  obtain ⟨k3, hk3, rfl, ⟨va, vn, vc, hY, hown3⟩, hb3⟩ := hrel
                  have hs3 := hb3.size
                  have y0 : wr.cell? ⟨wi.heap.size + 1, 0, none⟩ = some (.string p.1) := by rw [cell_of_heap hY]; rfl
                  have y1 : wr.cell? ⟨wi.heap.size + 1, 1, none⟩ = some (.slice va vn vc) := by rw [cell_of_heap hY]; rfl
                  have y2 := free_of_heap hY 1
                  have HY := Lib.hid hY
                  clear hY
                  by_cases hlt3 : k3 < p.2.length
                  · rcases HV3.out with ⟨hpe, _⟩ | ⟨b3, o3, cap3', hve3, hX3, _, hcb3, hpos3, hc3⟩
                    · rw [hpe] at hlt3; simp at hlt3
                    · simp only [Value.slice.injEq, true_and] at hve3
                      obtain ⟨rfl, rfl⟩ := hve3
                      obtain ⟨cs3, hcs31, hcs32, sv, hcs33, hz1, hz2, hz3, hz4, hz5, hR3⟩ := hc3 k3 hlt3
                      subst hcs33
                      obtain ⟨sa, sc, rfl⟩ := RGI.val hR3
                      have hbw := (hb.trans (hb2.mono hb.size)).trans (hb3.mono (by omega))
                      have f0 := cell_keep hbw (by simpa using hcs32 0 _ rfl)
                      have f1 := cell_keep hbw (by simpa using hcs32 1 _ rfl)
                      have f2 := cell_keep hbw (by simpa using hcs32 2 _ rfl)
                      have f3 := cell_keep hbw (by simpa using hcs32 3 _ rfl)
                      have f4 := cell_keep hbw (by simpa using hcs32 4 _ rfl)
                      have f5 := cell_keep hbw (by simpa using hcs32 5 _ rfl)
                      have f6 := cell_keep hbw (by simpa using hcs32 6 _ rfl)
                      have f7 := cell_keep hbw (by simpa using hcs32 7 _ rfl)
                      have f8 := cell_keep hbw (by simpa using hcs32 8 _ rfl)
                      clear hcs31 hcs32 hc3
                      obtain ⟨q, hqd⟩ : ∃ q, p.2[k3] = q := ⟨_, rfl⟩
                      rw [hqd] at f0 f1 f2 f3 f4 f5 f6 f7 f8 hz1 hz2 hz3 hz4 hz5 hR3
                      have HQ := Lib.hid hqd
                      clear hqd
                      have hYl := Lib.hid (lt_of_heap HY.out)
                      have hO2 := Lib.hid hown3
                      have hBw := Lib.hid hbw
                      have hB3 := Lib.hid hb3
                      have hlv := Lib.hid hown3.block_lt
                      have hbt : (k3 + 1) * 96 ≤ 140737488355328 := by omega
                      have hne1 : (Value.slice va vn vc).ownBlock ≠ some wr.heap.size := fun e => by have := (hlv.out _ e).2; omega
                      have hne2 : (Value.slice va vn vc).ownBlock ≠ some (wi.heap.size + 1) := fun e => by have := (hlv.out _ e).1; omega
                      have hYl2 : wi.heap.size + 1 < wr.heap.size := hYl.out
                      have hne3 : wr.heap.size ≠ wi.heap.size + 1 := by omega
                      clear hown3 hown2 hown hb hb2 hb3 hbw h0 h20 h21
                      go_wp2_with fail
                      refine wp_region_held_drew (S := fun w' => w'.heap[wr.heap.size]? = some (.cells #[.int .i64 q.kind, .string q.name, .string q.value, .bool q.fold, .int .i64 q.a, .int .i64 q.b, .bool q.last, .bool q.ofType, .slice sa q.subs.length sc] 84 (0, 0))) (by kernel_rfl) (by exact heap_alloc_new wr (.cells #[.int .i64 q.kind, .string q.name, .string q.value, .bool q.fold, .int .i64 q.a, .int .i64 q.b, .bool q.last, .bool q.ofType, .slice sa q.subs.length sc] 84)) (fun hHeld => ?_)
                      refine wpAnyH_take1 (i := 0) (d := 36) (v := .pointer (some ⟨wi.heap.size + 1, 1, none⟩)) rfl rfl (by kernel_rfl) (by kernel_rfl) (by kernel_rfl) (fun _ _ _ h => h) (Or.inl ⟨by kernel_rfl, fun w' hSw => (by go_simp)⟩) (by assumption) ?_
                      simp only [List.setIfInBounds_toArray, List.set_cons_zero, List.set_cons_succ]
                      refine wpAnyH_take1 (i := 2) (d := 38) (v := .pointer (some ⟨wr.heap.size, 0, none⟩)) rfl rfl (by kernel_rfl) (by kernel_rfl) (by kernel_rfl) (fun _ _ _ h => h) (Or.inl ⟨by kernel_rfl, fun w' hSw => (by go_simp)⟩) (by assumption) ?_
                      simp only [List.setIfInBounds_toArray, List.set_cons_zero, List.set_cons_succ]
                      refine wpAnyH_take1 (i := 3) (d := 39) (v := .int .i64 q.kind) rfl rfl (by kernel_rfl) (by kernel_rfl) (by kernel_rfl) (fun _ _ _ h => h) (Or.inl ⟨by kernel_rfl, fun w' hSw => (by have h1 := cell_of_heap hSw 0; go_simp)⟩) (by assumption) ?_
                      simp only [List.setIfInBounds_toArray, List.set_cons_zero, List.set_cons_succ]
                      refine wpAnyH_take1 (i := 4) (d := 40) (v := .pointer (some ⟨wr.heap.size, 1, none⟩)) rfl rfl (by kernel_rfl) (by kernel_rfl) (by kernel_rfl) (fun _ _ _ h => h) (Or.inl ⟨by kernel_rfl, fun w' hSw => (by go_simp)⟩) (by assumption) ?_
                      simp only [List.setIfInBounds_toArray, List.set_cons_zero, List.set_cons_succ]
                      refine wpAnyH_take1 (i := 5) (d := 41) (v := .string q.name) rfl rfl (by kernel_rfl) (by kernel_rfl) (by kernel_rfl) (fun _ _ _ h => h) (Or.inl ⟨by kernel_rfl, fun w' hSw => (by have h1 := cell_of_heap hSw 1; go_simp)⟩) (by assumption) ?_
                      simp only [List.setIfInBounds_toArray, List.set_cons_zero, List.set_cons_succ]
                      refine wpAnyH_take1 (i := 6) (d := 42) (v := .pointer (some ⟨wr.heap.size, 2, none⟩)) rfl rfl (by kernel_rfl) (by kernel_rfl) (by kernel_rfl) (fun _ _ _ h => h) (Or.inl ⟨by kernel_rfl, fun w' hSw => (by go_simp)⟩) (by assumption) ?_
                      simp only [List.setIfInBounds_toArray, List.set_cons_zero, List.set_cons_succ]
                      refine wpAnyH_take1 (i := 7) (d := 43) (v := .string q.value) rfl rfl (by kernel_rfl) (by kernel_rfl) (by kernel_rfl) (fun _ _ _ h => h) (Or.inl ⟨by kernel_rfl, fun w' hSw => (by have h1 := cell_of_heap hSw 2; go_simp)⟩) (by assumption) ?_
                      simp only [List.setIfInBounds_toArray, List.set_cons_zero, List.set_cons_succ]
                      refine wpAnyH_take1 (i := 8) (d := 44) (v := .pointer (some ⟨wr.heap.size, 3, none⟩)) rfl rfl (by kernel_rfl) (by kernel_rfl) (by kernel_rfl) (fun _ _ _ h => h) (Or.inl ⟨by kernel_rfl, fun w' hSw => (by go_simp)⟩) (by assumption) ?_
                      simp only [List.setIfInBounds_toArray, List.set_cons_zero, List.set_cons_succ]
                      refine wpAnyH_take1 (i := 9) (d := 45) (v := .bool q.fold) rfl rfl (by kernel_rfl) (by kernel_rfl) (by kernel_rfl) (fun _ _ _ h => h) (Or.inl ⟨by kernel_rfl, fun w' hSw => (by have h1 := cell_of_heap hSw 3; go_simp)⟩) (by assumption) ?_
                      simp only [List.setIfInBounds_toArray, List.set_cons_zero, List.set_cons_succ]
                      refine wpAnyH_take1 (i := 10) (d := 46) (v := .pointer (some ⟨wr.heap.size, 4, none⟩)) rfl rfl (by kernel_rfl) (by kernel_rfl) (by kernel_rfl) (fun _ _ _ h => h) (Or.inl ⟨by kernel_rfl, fun w' hSw => (by go_simp)⟩) (by assumption) ?_
                      simp only [List.setIfInBounds_toArray, List.set_cons_zero, List.set_cons_succ]
                      refine wpAnyH_take1 (i := 11) (d := 47) (v := .int .i64 q.a) rfl rfl (by kernel_rfl) (by kernel_rfl) (by kernel_rfl) (fun _ _ _ h => h) (Or.inl ⟨by kernel_rfl, fun w' hSw => (by have h1 := cell_of_heap hSw 4; go_simp)⟩) (by assumption) ?_
                      simp only [List.setIfInBounds_toArray, List.set_cons_zero, List.set_cons_succ]
                      refine wpAnyH_take1 (i := 12) (d := 48) (v := .pointer (some ⟨wr.heap.size, 5, none⟩)) rfl rfl (by kernel_rfl) (by kernel_rfl) (by kernel_rfl) (fun _ _ _ h => h) (Or.inl ⟨by kernel_rfl, fun w' hSw => (by go_simp)⟩) (by assumption) ?_
                      simp only [List.setIfInBounds_toArray, List.set_cons_zero, List.set_cons_succ]
                      refine wpAnyH_take1 (i := 13) (d := 49) (v := .int .i64 q.b) rfl rfl (by kernel_rfl) (by kernel_rfl) (by kernel_rfl) (fun _ _ _ h => h) (Or.inl ⟨by kernel_rfl, fun w' hSw => (by have h1 := cell_of_heap hSw 5; go_simp)⟩) (by assumption) ?_
                      simp only [List.setIfInBounds_toArray, List.set_cons_zero, List.set_cons_succ]
                      refine wpAnyH_take1 (i := 14) (d := 50) (v := .pointer (some ⟨wr.heap.size, 6, none⟩)) rfl rfl (by kernel_rfl) (by kernel_rfl) (by kernel_rfl) (fun _ _ _ h => h) (Or.inl ⟨by kernel_rfl, fun w' hSw => (by go_simp)⟩) (by assumption) ?_
                      simp only [List.setIfInBounds_toArray, List.set_cons_zero, List.set_cons_succ]
                      refine wpAnyH_take1 (i := 15) (d := 51) (v := .bool q.last) rfl rfl (by kernel_rfl) (by kernel_rfl) (by kernel_rfl) (fun _ _ _ h => h) (Or.inl ⟨by kernel_rfl, fun w' hSw => (by have h1 := cell_of_heap hSw 6; go_simp)⟩) (by assumption) ?_
                      simp only [List.setIfInBounds_toArray, List.set_cons_zero, List.set_cons_succ]
                      refine wpAnyH_take1 (i := 16) (d := 52) (v := .pointer (some ⟨wr.heap.size, 7, none⟩)) rfl rfl (by kernel_rfl) (by kernel_rfl) (by kernel_rfl) (fun _ _ _ h => h) (Or.inl ⟨by kernel_rfl, fun w' hSw => (by go_simp)⟩) (by assumption) ?_
                      simp only [List.setIfInBounds_toArray, List.set_cons_zero, List.set_cons_succ]
                      refine wpAnyH_take1 (i := 17) (d := 53) (v := .bool q.ofType) rfl rfl (by kernel_rfl) (by kernel_rfl) (by kernel_rfl) (fun _ _ _ h => h) (Or.inl ⟨by kernel_rfl, fun w' hSw => (by have h1 := cell_of_heap hSw 7; go_simp)⟩) (by assumption) ?_
                      simp only [List.setIfInBounds_toArray, List.set_cons_zero, List.set_cons_succ]
                      refine wpAnyH_take1 (i := 18) (d := 54) (v := .pointer (some ⟨wr.heap.size, 8, none⟩)) rfl rfl (by kernel_rfl) (by kernel_rfl) (by kernel_rfl) (fun _ _ _ h => h) (Or.inl ⟨by kernel_rfl, fun w' hSw => (by go_simp)⟩) (by assumption) ?_
                      simp only [List.setIfInBounds_toArray, List.set_cons_zero, List.set_cons_succ]
                      refine wpAnyH_take1 (i := 19) (d := 55) (v := .slice sa q.subs.length sc) rfl rfl (by kernel_rfl) (by kernel_rfl) (by kernel_rfl) (fun _ _ _ h => h) (Or.inl ⟨by kernel_rfl, fun w' hSw => (by have h1 := cell_of_heap hSw 8; go_simp)⟩) (by assumption) ?_
                      simp only [List.setIfInBounds_toArray, List.set_cons_zero, List.set_cons_succ]
                      refine wpAnyH_two (i := 1) (j := 20) (by kernel_rfl) (wpOp_val (v := .slice va vn vc) (w' := _) rfl (by kernel_rfl) rfl (by go_simp) ⟨hHeld, ?_⟩) (wpOp_enter (f := 22) (args := #[.slice sa q.subs.length sc]) rfl (by kernel_rfl) rfl (by go_simp) ((IH X _ (.slice sa q.subs.length sc) q.subs ((RGI.rep d).keep (KeepX.of_all (hBw.out.alloc (by omega) _).drew) hR3)).mono ?_))
                      · simp only [List.setIfInBounds_toArray, List.set_cons_zero, List.set_cons_succ]
                        refine wpAnyH_one (i := 20) (by kernel_rfl) (wpOp_enter (f := 22) (args := #[.slice sa q.subs.length sc]) rfl (by kernel_rfl) rfl (by go_simp) ((IH X _ (.slice sa q.subs.length sc) q.subs ((RGI.rep d).keep (KeepX.of_all (hBw.out.alloc (by omega) _).drew) hR3)).mono ?_))
                        rintro e w1 ⟨ga, gn, gc, rfl, hRG, hBl⟩
                        have hS1 := heap_keep hBl hHeld
                        refine ⟨_, rfl, hS1, ?_⟩
                        simp only [List.setIfInBounds_toArray, List.set_cons_zero, List.set_cons_succ]
                        have hBB : Below wr.heap.size wr w1 := (((Below.refl _ _).alloc (Nat.le_refl _) _).drew.trans (hBl.mono (by simp)))
                        refine wpAnyH_take1 (i := 21) (d := 57) (v := .agg #[.int .i64 q.kind, .string q.name, .string q.value, .bool q.fold, .int .i64 q.a, .int .i64 q.b, .bool q.last, .bool q.ofType, .slice ga gn gc]) rfl rfl (by kernel_rfl) (by kernel_rfl) (by kernel_rfl) (fun _ _ _ h => h) (Or.inl ⟨by kernel_rfl, fun w' hSw => (by go_simp)⟩) (by assumption) ?_
                        simp only [List.setIfInBounds_toArray, List.set_cons_zero, List.set_cons_succ]
                        refine wpAnyH_one (i := 22) (by kernel_rfl) (wpOp_val (v := .slice (some ⟨w1.heap.size, 0, none⟩) 1 1) (w' := w1.alloc (.cells #[.int .i64 q.kind, .string q.name, .string q.value, .bool q.fold, .int .i64 q.a, .int .i64 q.b, .bool q.last, .bool q.ofType, .slice ga gn gc] 69)) rfl (by kernel_rfl) rfl (by go_simp) ⟨heap_keep (below_alloc w1 _) hS1, ?_⟩)
                        simp only [List.setIfInBounds_toArray, List.set_cons_zero, List.set_cons_succ]
                        refine wpAnyH_one (i := 23) (by kernel_rfl) (wpOp_wp rfl (by kernel_rfl) rfl (fun K' hK => wp_push HE3 (wi.heap.size + 2) (.tmp 37) (.tmp 58) 65 69 (.agg #[.int .i64 0, .string ⟨#[]⟩, .string ⟨#[]⟩, .bool false, .int .i64 0, .int .i64 0, .bool false, .bool false, .slice none 0 0]) 9 96 rfl Tryz.underlying65 info69 rfl (by decide) (by decide) (.slice va vn vc) (p.2.take k3) (smCells q (.slice ga gn gc)) q ⟨w1.heap.size, 0, none⟩ rfl rfl rfl (by simp [smCells, Value.oneCell']) (news_alloc w1 _ _) (OwnRep.below HE3 (hBB.alloc hBB.size _) hO2.out) (sm_el (H := wr.heap.size) hz1 hz2 hz3 hz4 hz5 ((RG.rep d).mono (fun k hk => by simp at hk; omega) hRG) ((Below.refl _ _).alloc (Nat.le_refl _) _) (by have := hYl.out; omega) (fun k hk => (hlv.out k hk).2)) (by have h1 := hYl.out; have h2 := hBB.size; simp; omega) (by rw [take_len hk3]; exact hbt) ?_))
                        intro gg cap5 w5 hO hG hat hgl
                        rw [take_len hk3] at hO
                        have hS2 : w5.heap[wr.heap.size]? = some (.cells #[.int .i64 q.kind, .string q.name, .string q.value, .bool q.fold, .int .i64 q.a, .int .i64 q.b, .bool q.last, .bool q.ofType, .slice sa q.subs.length sc] 84 (0, 0)) := by rw [hG.block _ (by have := hBB.size; have := lt_of_heap hS1; simp; omega) (fun e => hne1 e.symm)]; exact heap_keep (below_alloc w1 _) hS1
                        refine hK _ _ ⟨hS2, ?_⟩
                        simp only [List.setIfInBounds_toArray, List.set_cons_zero, List.set_cons_succ]
                        refine wpAnyH_take1 (i := 24) (d := 60) (v := .pointer (some ⟨wi.heap.size + 1, 1, none⟩)) rfl rfl (by kernel_rfl) (by kernel_rfl) (by kernel_rfl) (fun _ _ _ h => h) (Or.inl ⟨by kernel_rfl, fun w' hSw => (by go_simp)⟩) (by assumption) ?_
                        simp only [List.setIfInBounds_toArray, List.set_cons_zero, List.set_cons_succ]
                        have y1'' := grown_cell hG hne2 (cell_keep ((Below.refl _ _).alloc (Nat.le_refl _) _) (cell_keep hBB y1))
                        have y2'' := grown_free hG hne2 (by have h1 := hYl.out; have h2 := hBB.size; simp; omega) (below_free (hBB.alloc hBB.size _) hYl.out y2)
                        refine wpAnyH_one (i := 25) (by kernel_rfl) (wpOp_skip (w' := w5.setCell ⟨wi.heap.size + 1, 1, none⟩ (.slice (some ⟨gg, 0, none⟩) (k3 + 1) cap5)) rfl (by kernel_rfl) rfl (by rw [take_len hk3]; go_simp) ⟨by rw [Below.heap_setCell _ _ _ _ hne3]; exact hS2, ?_⟩)
                        refine wpAnyH_done (by kernel_rfl) ?_ _
                        have zY : w5.heap[wi.heap.size + 1]? = some (.cells #[.string p.1, .slice va vn vc] 67 (0, 0)) := by rw [hG.block _ (by have h1 := hYl.out; have h2 := hBB.size; simp; omega) (fun e => hne2 e.symm)]; exact heap_keep (below_alloc w1 _) (heap_keep hBB HY.out)
                        have hZ := Lib.hid (heap_setCell_same (c := 1) (u := .slice (some ⟨gg, 0, none⟩) (k3 + 1) cap5) zY)
                        have hO5 := Lib.hid (hO.keep HE3 (w' := w5.setCell ⟨wi.heap.size + 1, 1, none⟩ (.slice (some ⟨gg, 0, none⟩) (k3 + 1) cap5)) (fun j _ hx => Below.heap_setCell w5 ⟨wi.heap.size + 1, 1, none⟩ _ j (show j ≠ wi.heap.size + 1 by omega)) (by simp [World.setCell]))
                        have hB5 := Lib.hid ((below_grown ((hB3.out.trans (hBB.mono hB3.out.size)).alloc (hB3.out.trans (hBB.mono hB3.out.size)).size _) hG (by have h2 := hBB.size; simp; omega) (fun j hj => by have := (hlv.out j hj).1; omega)).setCell (p := ⟨wi.heap.size + 1, 1, none⟩) (by simp) (.slice (some ⟨gg, 0, none⟩) (k3 + 1) cap5))
                        clear hO hG hat zY hRG hBl hBB hS1 hS2
                        go_wp2_with fail
                        go_roundw
                        case rel => exact ⟨k3 + 1, by omega, by go_num, ⟨_, _, _, hZ.out, by rw [← take_push hlt3 HQ.out]; exact hO5.out⟩, hB5.out⟩
                        case measure => simp [intOf]; omega
                      · rintro e w1 ⟨ga, gn, gc, rfl, hRG, hBl⟩
                        have hS1 := heap_keep hBl hHeld
                        refine ⟨_, rfl, hS1, ?_⟩
                        simp only [List.setIfInBounds_toArray, List.set_cons_zero, List.set_cons_succ]
                        have yy := cell_keep hBl (cell_keep ((Below.refl _ _).alloc (Nat.le_refl _) _).drew y1)
                        have hBB : Below wr.heap.size wr w1 := (((Below.refl _ _).alloc (Nat.le_refl _) _).drew.trans (hBl.mono (by simp)))
                        refine wpAnyH_take1 (i := 21) (d := 57) (v := .agg #[.int .i64 q.kind, .string q.name, .string q.value, .bool q.fold, .int .i64 q.a, .int .i64 q.b, .bool q.last, .bool q.ofType, .slice ga gn gc]) rfl rfl (by kernel_rfl) (by kernel_rfl) (by kernel_rfl) (fun _ _ _ h => h) (Or.inl ⟨by kernel_rfl, fun w' hSw => (by go_simp)⟩) (by assumption) ?_
                        simp only [List.setIfInBounds_toArray, List.set_cons_zero, List.set_cons_succ]
                        refine wpAnyH_two (i := 1) (j := 22) (by kernel_rfl) (wpOp_val (v := .slice va vn vc) (w' := _) rfl (by kernel_rfl) rfl (by go_simp) ⟨hS1, ?_⟩) (wpOp_val (v := .slice (some ⟨w1.heap.size, 0, none⟩) 1 1) (w' := w1.alloc (.cells #[.int .i64 q.kind, .string q.name, .string q.value, .bool q.fold, .int .i64 q.a, .int .i64 q.b, .bool q.last, .bool q.ofType, .slice ga gn gc] 69)) rfl (by kernel_rfl) rfl (by go_simp) ⟨heap_keep (below_alloc w1 _) hS1, ?_⟩)
                        · simp only [List.setIfInBounds_toArray, List.set_cons_zero, List.set_cons_succ]
                          refine wpAnyH_one (i := 22) (by kernel_rfl) (wpOp_val (v := .slice (some ⟨w1.heap.size, 0, none⟩) 1 1) (w' := w1.alloc (.cells #[.int .i64 q.kind, .string q.name, .string q.value, .bool q.fold, .int .i64 q.a, .int .i64 q.b, .bool q.last, .bool q.ofType, .slice ga gn gc] 69)) rfl (by kernel_rfl) rfl (by go_simp) ⟨heap_keep (below_alloc w1 _) hS1, ?_⟩)
                          simp only [List.setIfInBounds_toArray, List.set_cons_zero, List.set_cons_succ]
                          refine wpAnyH_one (i := 23) (by kernel_rfl) (wpOp_wp rfl (by kernel_rfl) rfl (fun K' hK => wp_push HE3 (wi.heap.size + 2) (.tmp 37) (.tmp 58) 65 69 (.agg #[.int .i64 0, .string ⟨#[]⟩, .string ⟨#[]⟩, .bool false, .int .i64 0, .int .i64 0, .bool false, .bool false, .slice none 0 0]) 9 96 rfl Tryz.underlying65 info69 rfl (by decide) (by decide) (.slice va vn vc) (p.2.take k3) (smCells q (.slice ga gn gc)) q ⟨w1.heap.size, 0, none⟩ rfl rfl rfl (by simp [smCells, Value.oneCell']) (news_alloc w1 _ _) (OwnRep.below HE3 (hBB.alloc hBB.size _) hO2.out) (sm_el (H := wr.heap.size) hz1 hz2 hz3 hz4 hz5 ((RG.rep d).mono (fun k hk => by simp at hk; omega) hRG) ((Below.refl _ _).alloc (Nat.le_refl _) _) (by have := hYl.out; omega) (fun k hk => (hlv.out k hk).2)) (by have h1 := hYl.out; have h2 := hBB.size; simp; omega) (by rw [take_len hk3]; exact hbt) ?_))
                          intro gg cap5 w5 hO hG hat hgl
                          rw [take_len hk3] at hO
                          have hS2 : w5.heap[wr.heap.size]? = some (.cells #[.int .i64 q.kind, .string q.name, .string q.value, .bool q.fold, .int .i64 q.a, .int .i64 q.b, .bool q.last, .bool q.ofType, .slice sa q.subs.length sc] 84 (0, 0)) := by rw [hG.block _ (by have := hBB.size; have := lt_of_heap hS1; simp; omega) (fun e => hne1 e.symm)]; exact heap_keep (below_alloc w1 _) hS1
                          refine hK _ _ ⟨hS2, ?_⟩
                          simp only [List.setIfInBounds_toArray, List.set_cons_zero, List.set_cons_succ]
                          refine wpAnyH_take1 (i := 24) (d := 60) (v := .pointer (some ⟨wi.heap.size + 1, 1, none⟩)) rfl rfl (by kernel_rfl) (by kernel_rfl) (by kernel_rfl) (fun _ _ _ h => h) (Or.inl ⟨by kernel_rfl, fun w' hSw => (by go_simp)⟩) (by assumption) ?_
                          simp only [List.setIfInBounds_toArray, List.set_cons_zero, List.set_cons_succ]
                          have y1'' := grown_cell hG hne2 (cell_keep ((Below.refl _ _).alloc (Nat.le_refl _) _) (cell_keep hBB y1))
                          have y2'' := grown_free hG hne2 (by have h1 := hYl.out; have h2 := hBB.size; simp; omega) (below_free (hBB.alloc hBB.size _) hYl.out y2)
                          refine wpAnyH_one (i := 25) (by kernel_rfl) (wpOp_skip (w' := w5.setCell ⟨wi.heap.size + 1, 1, none⟩ (.slice (some ⟨gg, 0, none⟩) (k3 + 1) cap5)) rfl (by kernel_rfl) rfl (by rw [take_len hk3]; go_simp) ⟨by rw [Below.heap_setCell _ _ _ _ hne3]; exact hS2, ?_⟩)
                          refine wpAnyH_done (by kernel_rfl) ?_ _
                          have zY : w5.heap[wi.heap.size + 1]? = some (.cells #[.string p.1, .slice va vn vc] 67 (0, 0)) := by rw [hG.block _ (by have h1 := hYl.out; have h2 := hBB.size; simp; omega) (fun e => hne2 e.symm)]; exact heap_keep (below_alloc w1 _) (heap_keep hBB HY.out)
                          have hZ := Lib.hid (heap_setCell_same (c := 1) (u := .slice (some ⟨gg, 0, none⟩) (k3 + 1) cap5) zY)
                          have hO5 := Lib.hid (hO.keep HE3 (w' := w5.setCell ⟨wi.heap.size + 1, 1, none⟩ (.slice (some ⟨gg, 0, none⟩) (k3 + 1) cap5)) (fun j _ hx => Below.heap_setCell w5 ⟨wi.heap.size + 1, 1, none⟩ _ j (show j ≠ wi.heap.size + 1 by omega)) (by simp [World.setCell]))
                          have hB5 := Lib.hid ((below_grown ((hB3.out.trans (hBB.mono hB3.out.size)).alloc (hB3.out.trans (hBB.mono hB3.out.size)).size _) hG (by have h2 := hBB.size; simp; omega) (fun j hj => by have := (hlv.out j hj).1; omega)).setCell (p := ⟨wi.heap.size + 1, 1, none⟩) (by simp) (.slice (some ⟨gg, 0, none⟩) (k3 + 1) cap5))
                          clear hO hG hat zY hRG hBl hBB hS1 hS2
                          go_wp2_with fail
                          go_roundw
                          case rel => exact ⟨k3 + 1, by omega, by go_num, ⟨_, _, _, hZ.out, by rw [← take_push hlt3 HQ.out]; exact hO5.out⟩, hB5.out⟩
                          case measure => simp [intOf]; omega
                        · simp only [List.setIfInBounds_toArray, List.set_cons_zero, List.set_cons_succ]
                          have yz := cell_keep (below_alloc w1 (.cells #[.int .i64 q.kind, .string q.name, .string q.value, .bool q.fold, .int .i64 q.a, .int .i64 q.b, .bool q.last, .bool q.ofType, .slice ga gn gc] 69)) yy
                          refine wpAnyH_one (i := 1) (by kernel_rfl) (wpOp_val (v := .slice va vn vc) (w' := w1.alloc (.cells #[.int .i64 q.kind, .string q.name, .string q.value, .bool q.fold, .int .i64 q.a, .int .i64 q.b, .bool q.last, .bool q.ofType, .slice ga gn gc] 69)) rfl (by kernel_rfl) rfl (by go_simp) ⟨heap_keep (below_alloc w1 _) hS1, ?_⟩)
                          simp only [List.setIfInBounds_toArray, List.set_cons_zero, List.set_cons_succ]
                          refine wpAnyH_one (i := 23) (by kernel_rfl) (wpOp_wp rfl (by kernel_rfl) rfl (fun K' hK => wp_push HE3 (wi.heap.size + 2) (.tmp 37) (.tmp 58) 65 69 (.agg #[.int .i64 0, .string ⟨#[]⟩, .string ⟨#[]⟩, .bool false, .int .i64 0, .int .i64 0, .bool false, .bool false, .slice none 0 0]) 9 96 rfl Tryz.underlying65 info69 rfl (by decide) (by decide) (.slice va vn vc) (p.2.take k3) (smCells q (.slice ga gn gc)) q ⟨w1.heap.size, 0, none⟩ rfl rfl rfl (by simp [smCells, Value.oneCell']) (news_alloc w1 _ _) (OwnRep.below HE3 (hBB.alloc hBB.size _) hO2.out) (sm_el (H := wr.heap.size) hz1 hz2 hz3 hz4 hz5 ((RG.rep d).mono (fun k hk => by simp at hk; omega) hRG) ((Below.refl _ _).alloc (Nat.le_refl _) _) (by have := hYl.out; omega) (fun k hk => (hlv.out k hk).2)) (by have h1 := hYl.out; have h2 := hBB.size; simp; omega) (by rw [take_len hk3]; exact hbt) ?_))
                          intro gg cap5 w5 hO hG hat hgl
                          rw [take_len hk3] at hO
                          have hS2 : w5.heap[wr.heap.size]? = some (.cells #[.int .i64 q.kind, .string q.name, .string q.value, .bool q.fold, .int .i64 q.a, .int .i64 q.b, .bool q.last, .bool q.ofType, .slice sa q.subs.length sc] 84 (0, 0)) := by rw [hG.block _ (by have := hBB.size; have := lt_of_heap hS1; simp; omega) (fun e => hne1 e.symm)]; exact heap_keep (below_alloc w1 _) hS1
                          refine hK _ _ ⟨hS2, ?_⟩
                          simp only [List.setIfInBounds_toArray, List.set_cons_zero, List.set_cons_succ]
                          refine wpAnyH_take1 (i := 24) (d := 60) (v := .pointer (some ⟨wi.heap.size + 1, 1, none⟩)) rfl rfl (by kernel_rfl) (by kernel_rfl) (by kernel_rfl) (fun _ _ _ h => h) (Or.inl ⟨by kernel_rfl, fun w' hSw => (by go_simp)⟩) (by assumption) ?_
                          simp only [List.setIfInBounds_toArray, List.set_cons_zero, List.set_cons_succ]
                          have y1'' := grown_cell hG hne2 (cell_keep ((Below.refl _ _).alloc (Nat.le_refl _) _) (cell_keep hBB y1))
                          have y2'' := grown_free hG hne2 (by have h1 := hYl.out; have h2 := hBB.size; simp; omega) (below_free (hBB.alloc hBB.size _) hYl.out y2)
                          refine wpAnyH_one (i := 25) (by kernel_rfl) (wpOp_skip (w' := w5.setCell ⟨wi.heap.size + 1, 1, none⟩ (.slice (some ⟨gg, 0, none⟩) (k3 + 1) cap5)) rfl (by kernel_rfl) rfl (by rw [take_len hk3]; go_simp) ⟨by rw [Below.heap_setCell _ _ _ _ hne3]; exact hS2, ?_⟩)
                          refine wpAnyH_done (by kernel_rfl) ?_ _
                          have zY : w5.heap[wi.heap.size + 1]? = some (.cells #[.string p.1, .slice va vn vc] 67 (0, 0)) := by rw [hG.block _ (by have h1 := hYl.out; have h2 := hBB.size; simp; omega) (fun e => hne2 e.symm)]; exact heap_keep (below_alloc w1 _) (heap_keep hBB HY.out)
                          have hZ := Lib.hid (heap_setCell_same (c := 1) (u := .slice (some ⟨gg, 0, none⟩) (k3 + 1) cap5) zY)
                          have hO5 := Lib.hid (hO.keep HE3 (w' := w5.setCell ⟨wi.heap.size + 1, 1, none⟩ (.slice (some ⟨gg, 0, none⟩) (k3 + 1) cap5)) (fun j _ hx => Below.heap_setCell w5 ⟨wi.heap.size + 1, 1, none⟩ _ j (show j ≠ wi.heap.size + 1 by omega)) (by simp [World.setCell]))
                          have hB5 := Lib.hid ((below_grown ((hB3.out.trans (hBB.mono hB3.out.size)).alloc (hB3.out.trans (hBB.mono hB3.out.size)).size _) hG (by have h2 := hBB.size; simp; omega) (fun j hj => by have := (hlv.out j hj).1; omega)).setCell (p := ⟨wi.heap.size + 1, 1, none⟩) (by simp) (.slice (some ⟨gg, 0, none⟩) (k3 + 1) cap5))
                          clear hO hG hat zY hRG hBl hBB hS1 hS2
                          go_wp2_with fail
                          go_roundw
                          case rel => exact ⟨k3 + 1, by omega, by go_num, ⟨_, _, _, hZ.out, by rw [← take_push hlt3 HQ.out]; exact hO5.out⟩, hB5.out⟩
                          case measure => simp [intOf]; omega
                  · --[C
                    rw [take_all hlt3] at hown3
                    have hO1 := Lib.hid (OwnRep.below HE2 hb3 hown2)
                    have hltx := Lib.hid hown2.block_lt
                    have hel := Lib.hid (OwnRep.slice HE3 hown3)
                    have hbb := Lib.hid (hb2.trans (hb3.mono hb2.size))
                    have hbt : (k2 + 1) * 40 ≤ 140737488355328 := by omega
                    clear hown2 hown3 hb2 hb3
                    go_wp2_with ((at_builtin; refine wpList_push (ECp.rep (RG.rep d)) wo.heap.size rfl (.tmp 62) (.tmp 64) 64 67 (.agg #[.string ⟨#[]⟩, .slice none 0 0]) 2 40 rfl Tryz.underlying64 info67 rfl (by decide) (by decide) (.slice xa k2 xc) (c.take k2) [.string p.1, .slice va vn vc] p ⟨wr.heap.size, 0, none⟩ rfl rfl rfl ?c1 (news_alloc wr _ _) ?c3 ?c4 ?c5 ?c6 ?_))
                    case c1 => intro u hu; simp at hu; rcases hu with rfl | rfl <;> rfl
                    case c3 => exact OwnRep.below HE2 ((Below.refl _ _).alloc (Nat.le_refl _) _) hO1.out
                    case c4 =>
                      refine ⟨_, rfl, hpsz, ?_⟩
                      refine (SlX.rep HE3 (by omega)).mono ?_ ((SlX.rep HE3 (by omega)).keep (KeepX.of_all ((Below.refl _ _).alloc (Nat.le_refl _) _)) hel.out)
                      intro j hj
                      refine ⟨by omega, fun e => ?_⟩
                      have := (hltx.out j e.symm).2
                      omega
                    case c5 => simp; omega
                    case c6 => rw [take_len hk2]; exact hbt
                    · intro gg cap4 w1 hO hG hat hgl
                      have hO := Lib.hid hO
                      have hB1 := Lib.hid (below_grown hbb.out ((World.grownBy_alloc wr _ _).trans hG) (by omega) (fun j hj => (hltx.out j hj).1))
                      clear hG hat
                      go_wp2_with fail
                      go_roundw
                      case rel => exact ⟨k2 + 1, by omega, by go_num, by rw [← take_push hlt2 HP.out]; exact hO.out, hB1.out⟩
                      case measure => simp [intOf]; omega
                    --C]
            · --[A
              rw [take_all hlt2] at hown2
              obtain rfl : k2 = c.length := by omega
              have hO1 := Lib.hid (OwnRep.below HE hb2 hown)
              have hlt3 := Lib.hid hown.block_lt
              have hel := Lib.hid (OwnRep.slice (ECp.rep (RG.rep d)) hown2)
              have hbb := Lib.hid (hb.trans (hb2.mono hb.size))
              have hsz := hb.size
              have hbt : (k + 1) * 24 ≤ 140737488355328 := by omega
              clear hown hown2 hb hb2
              go_wp2_with ((at_builtin; refine wpList_push (ECx.rep (RG.rep d)) w.heap.size rfl (.tmp 67) (.tmp 69) 25 64 (.slice none 0 0) 1 24 rfl Tryz.underlying25 info64 rfl (by decide) (by decide) (.slice oa k oc) (g.take k) [.slice xa c.length xc] c ⟨wr.heap.size, 0, none⟩ rfl rfl rfl ?c1 (news_alloc wr _ _) ?c3 ?c4 ?c5 ?c6 ?_))
              case c1 => intro u hu; simp at hu; subst hu; rfl
              case c3 => exact OwnRep.below HE ((Below.refl _ _).alloc (Nat.le_refl _) _) hO1.out
              case c4 =>
                refine ⟨_, rfl, ?_⟩
                refine (SlX.rep (ECp.rep (RG.rep d)) (by omega)).mono ?_ ((SlX.rep (ECp.rep (RG.rep d)) (by omega)).keep (KeepX.of_all ((Below.refl _ _).alloc (Nat.le_refl _) _)) hel.out)
                intro j hj
                refine ⟨by omega, fun e => ?_⟩
                have := (hlt3.out j e.symm).2
                omega
              case c5 => simp; omega
              case c6 => rw [take_len hk]; exact hbt
              · intro gg cap3 w1 hO hG hat hgl
                have hO := Lib.hid hO
                have hB1 := Lib.hid (below_grown hbb.out ((World.grownBy_alloc wr _ _).trans hG) (by omega) (fun j hj => (hlt3.out j hj).1))
                clear hG hat
                go_wp2_with fail
                go_roundw
                case rel => exact ⟨k + 1, by omega, by go_num, by rw [← take_push hlt HC.out]; exact hO.out, hB1.out⟩
                case measure => simp [intOf]; omega
              --A]
      · --[B
        rw [take_all hlt] at hown
        obtain ⟨oa, oc, hoe⟩ := hown.val _ rfl
        subst hoe
        have hO := Lib.hid (OwnRep.slice HE hown)
        clear hown
        go_wp2_with fail
        go_ret
        exact ⟨_, _, _, rfl, hO.out, hb⟩
        --B]
end Go.Proofs.YteaapgijeehhfaaGreatDoor
