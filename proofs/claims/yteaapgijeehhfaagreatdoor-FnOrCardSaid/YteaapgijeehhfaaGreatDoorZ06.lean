/- The parser reads the selector of an attribute with a value (ds ds_i pf pf_i); printed by genattr.py. -/
import Derived.Test.YteaapgijeehhfaaGreatDoorZ04
namespace Go.Proofs.YteaapgijeehhfaaGreatDoor
open Go.RowKit

set_option maxRecDepth 100000 in
set_option maxHeartbeats 4000000 in
theorem parseAttr_ds (w : World) (bp : Nat) (s : ByteArray) (i d : Nat) (n v r : List UInt8) (hp : PS w bp s i d) (ha : At s i (91 :: (n ++ (124 :: (61 :: (34 :: (v ++ (34 :: (93 :: r))))))))) (hs : s.size ≤ 140737488351232)
    (hn : n.all nch = true) (hh : headSmall n = true) (hv : v.all vch = true) (h0v : v ≠ []) :
    Calls Tryz.prog 82 #[.pointer (some ⟨bp, 0, none⟩)] w (PPost w bp s (i + 1 + n.length + 2 + 1 + v.length + 1 + 1) d (.tuple #[.agg #[.string (bs n), .string (bs v), .string ⟨#[124, 61]⟩, .bool false], .nilIface])) := by
  have h0 := hp.c0
  have h1 := hp.c1
  have f1 := hp.f1
  have hlt0 := ha.lt
  have hlt1 : (i : Int) < (s.size : Int) := by omega
  have hg0 := ha.get
  have e0 : ((s[i].toNat : Int) != 91) = false := by rw [hg0]; rfl
  have hlen : n.length ≤ 140737488351232 := by have := ha.len; simp at this; omega
  obtain ⟨j, hj⟩ : ∃ j, j = i + 1 + n.length := ⟨_, rfl⟩
  have ha2 : At s j (124 :: (61 :: (34 :: (v ++ (34 :: (93 :: r)))))) := by rw [hj]; exact ha.next.skip
  have hlt2 := ha2.lt
  have hlt3 : (j : Int) < (s.size : Int) := by omega
  have hg2 := ha2.get
  have e2 : ((s[j].toNat : Int) == 93) = false := by rw [hg2]; rfl
  have hlong : ¬ ((s.size : Int) ≤ (j : Int) + 2) := by have := ha2.len; simp at this; omega
  have hsl : ∀ wx, (Instr.slice 9 (.string s) (some (.int .i64 (j : Int))) (some (.int .i64 ((j : Int) + 2))) none).run Tryz.prog wx = .ok (.string ⟨#[124, 61]⟩) wx := slice_at (l := [124, 61]) ha2
  have haq : At s (j + 2) (34 :: (v ++ (34 :: (93 :: r)))) := ha2.next.next
  obtain ⟨q, hq⟩ : ∃ q, q = j + 2 := ⟨_, rfl⟩
  rw [← hq] at haq
  have hqlt := haq.lt
  have hqlt1 : (q : Int) < (s.size : Int) := by omega
  have hgq := haq.get
  have q1 : ((s[q].toNat : Int) == 39) = false := by rw [hgq]; rfl
  have q2 : ((s[q].toNat : Int) == 34) = true := by rw [hgq]; rfl
  obtain ⟨x, hx⟩ : ∃ x, x = q + 1 + v.length + 1 := ⟨_, rfl⟩
  have hax : At s x (93 :: r) := by rw [hx]; exact haq.next.skip.next
  have haz : At s x (93 :: r) := hax
  obtain ⟨z, hz⟩ : ∃ z, z = x := ⟨_, rfl⟩
  rw [← hz] at haz
  have hzl := haz.lt
  have hzl1 : (z : Int) < (s.size : Int) := by omega
  have hgz := haz.get
  have z1 : ((s[z].toNat : Int) != 93) = false := by rw [hgz]; rfl
  obtain rfl := hz
  have z2 : ((s[z].toNat : Int) == 105) = false := by rw [hgz]; rfl
  have z3 : ((s[z].toNat : Int) == 73) = false := by rw [hgz]; rfl
  have hend : i + 1 + n.length + 2 + 1 + v.length + 1 + 1 = z + 1 := by omega
  rw [hend]
  have HA := Lib.hid ha.next
  have HA2 := Lib.hid ha2
  have HAQ := Lib.hid haq
  have HAX := Lib.hid hax
  have HAZ := Lib.hid haz
  have HJ := Lib.hid hj
  have HX := Lib.hid hx
  have HNQ := Lib.hid hq
  have HN := Lib.hid hn
  have HH := Lib.hid hh
  have HV := Lib.hid hv
  have HVE := Lib.hid h0v
  have HNE : n ≠ [] := by intro e; rw [e] at hh; simp [headSmall] at hh
  have hbp := hp.lt
  have HB := Lib.hid (heap_alloc_new w (.cells #[.string ⟨#[]⟩, .string ⟨#[]⟩, .string ⟨#[]⟩, .bool false] 165))
  have HQ := Lib.hid (St.start (hp.alloc (.cells #[.string ⟨#[]⟩, .string ⟨#[]⟩, .string ⟨#[]⟩, .bool false] 165)))
  clear ha hn hh hv h0v hp hg0 hg2 hgq hgz ha2 haq hax haz hj hx hq hend
  go_enter Tryz.func82, Tryz.ntmps82
  go_wp2_with fail
  go_quiet (fail)
  go_wp2_with fail
  go_quiet (fail)
  go_wp2_with (first | (go_at_call 70; refine (skip_none _ bp s (i + 1) d _ (by exact ((HQ.out.drewN _).setI _ _ (by omega)).ps) HA.out hs (head_no_skip HN.out HNE)).mono ?_; rintro e w' ⟨rfl, hp2, hm2⟩; have HQ2 := Lib.hid (((HQ.out.drewN _).setI (i + 1) _ (by omega)).after hp2 hm2); clear hp2 hm2) | (go_at_call 87; refine (parseIdent_any _ bp s (i + 1) d n _ HQ2.out.ps HA.out hs HN.out HH.out (headP_cons (by simp [stopC]))).mono ?_; rintro e w' ⟨rfl, hp2, hm2⟩; rw [← HJ.out] at hp2; have HQ3 := Lib.hid (HQ2.out.after hp2 hm2); clear hp2 hm2) | (go_at_call 88; refine (lower_any n _ HN.out hlen).mono ?_; rintro e w'' ⟨rfl, rfl⟩) | (go_at_call 70; refine (skip_none _ bp s j d _ HQ3.out.ps HA2.out hs (ns_cons (by decide))).mono ?_; rintro e w' ⟨rfl, hp2, hm2⟩; have HQ4 := Lib.hid (HQ3.out.after hp2 hm2); clear hp2 hm2))
  have k10 := HQ4.out.c0
  have k11 := HQ4.out.c1
  have k12 := HQ4.out.f1
  clear h0 h1 f1
  go_quiet (fail)
  go_wp2_with fail
  go_quiet (fail)
  go_wp2_with fail
  go_quiet (fail)
  go_wp2_with fail
  go_quiet (fail)
  go_wp2_with (go_at_call 70; refine (skip_none _ bp s q d _ (by exact ((HQ4.out.drewN _).setI _ _ (by have := HNQ.out; omega)).ps) HAQ.out hs (ns_cons (by decide))).mono ?_; rintro e w' ⟨rfl, hp2, hm2⟩; have HQ5 := Lib.hid (((HQ4.out.drewN _).setI q _ (by have := HNQ.out; omega)).after hp2 hm2); clear hp2 hm2)
  have k20 := HQ5.out.c0
  have k21 := HQ5.out.c1
  have k22 := HQ5.out.f1
  clear k10 k11 k12
  go_quiet (fail)
  go_wp2_with fail
  go_quiet (fail)
  go_wp2_with (first | (go_at_call 90; refine (parseString_any _ bp s q d v _ (by exact (HQ5.out.drewN _).ps) HAQ.out hs HV.out HVE.out).mono ?_; rintro e w' ⟨rfl, hp2, hm2⟩; rw [← HX.out] at hp2; have HQ6 := Lib.hid ((HQ5.out.drewN _).after hp2 hm2); clear hp2 hm2) | (go_at_call 70; refine (skip_none _ bp s z d _ HQ6.out.ps HAX.out hs (ns_cons (by decide))).mono ?_; rintro e w' ⟨rfl, hp2, hm2⟩; have HQ7 := Lib.hid (HQ6.out.after hp2 hm2); clear hp2 hm2))
  have k30 := HQ7.out.c0
  have k31 := HQ7.out.c1
  have k32 := HQ7.out.f1
  clear k20 k21 k22
  go_quiet (fail)
  go_wp2_with fail
  go_quiet (fail)
  go_wp2_with (go_at_call 70; refine (skip_none _ bp s z d _ (by exact (HQ7.out.drewN _).ps) HAZ.out hs (ns_cons (by decide))).mono ?_; rintro e w' ⟨rfl, hp2, hm2⟩; have HQ8 := Lib.hid ((HQ7.out.drewN _).after hp2 hm2); clear hp2 hm2)
  have k40 := HQ8.out.c0
  have k41 := HQ8.out.c1
  have k42 := HQ8.out.f1
  clear k30 k31 k32
  have hb := HQ8.out.heap HB.out (by omega)
  have b0 := cell_of_heap hb 0
  have b1 := cell_of_heap hb 1
  have b2 := cell_of_heap hb 2
  have b3 := cell_of_heap hb 3
  have b4 := free_of_heap hb 0
  have b5 := free_of_heap hb 1
  have b6 := free_of_heap hb 2
  have b7 := free_of_heap hb 3
  simp only [List.getElem?_toArray, List.getElem?_cons_zero, List.getElem?_cons_succ] at b0 b1 b2 b3
  clear hb
  go_quiet (fail)
  go_wp2_with fail
  go_quiet (fail)
  go_wp2_with fail
  exact bodyPost_ret (v := .tuple #[.agg #[.string (bs n), .string (bs v), .string ⟨#[124, 61]⟩, .bool false], .nilIface]) (by simp [results, Tryz.results82, go_sem, b0, b1, b2, b3]) rfl (((((((HQ8.out.low.drewN _).setI (z + 1) _ (by omega)).setNew (Nat.le_refl _) hbp _ _).setNew (Nat.le_refl _) hbp _ _).setNew (Nat.le_refl _) hbp _ _).setNew (Nat.le_refl _) hbp _ _).post _)

set_option maxRecDepth 100000 in
set_option maxHeartbeats 4000000 in
theorem parseAttr_ds_i (w : World) (bp : Nat) (s : ByteArray) (i d : Nat) (n v r : List UInt8) (hp : PS w bp s i d) (ha : At s i (91 :: (n ++ (124 :: (61 :: (34 :: (v ++ (34 :: (32 :: (105 :: (93 :: r))))))))))) (hs : s.size ≤ 140737488351232)
    (hn : n.all nch = true) (hh : headSmall n = true) (hv : v.all vch = true) (h0v : v ≠ []) :
    Calls Tryz.prog 82 #[.pointer (some ⟨bp, 0, none⟩)] w (PPost w bp s (i + 1 + n.length + 2 + 1 + v.length + 1 + 3) d (.tuple #[.agg #[.string (bs n), .string (bs v), .string ⟨#[124, 61]⟩, .bool true], .nilIface])) := by
  have h0 := hp.c0
  have h1 := hp.c1
  have f1 := hp.f1
  have hlt0 := ha.lt
  have hlt1 : (i : Int) < (s.size : Int) := by omega
  have hg0 := ha.get
  have e0 : ((s[i].toNat : Int) != 91) = false := by rw [hg0]; rfl
  have hlen : n.length ≤ 140737488351232 := by have := ha.len; simp at this; omega
  obtain ⟨j, hj⟩ : ∃ j, j = i + 1 + n.length := ⟨_, rfl⟩
  have ha2 : At s j (124 :: (61 :: (34 :: (v ++ (34 :: (32 :: (105 :: (93 :: r)))))))) := by rw [hj]; exact ha.next.skip
  have hlt2 := ha2.lt
  have hlt3 : (j : Int) < (s.size : Int) := by omega
  have hg2 := ha2.get
  have e2 : ((s[j].toNat : Int) == 93) = false := by rw [hg2]; rfl
  have hlong : ¬ ((s.size : Int) ≤ (j : Int) + 2) := by have := ha2.len; simp at this; omega
  have hsl : ∀ wx, (Instr.slice 9 (.string s) (some (.int .i64 (j : Int))) (some (.int .i64 ((j : Int) + 2))) none).run Tryz.prog wx = .ok (.string ⟨#[124, 61]⟩) wx := slice_at (l := [124, 61]) ha2
  have haq : At s (j + 2) (34 :: (v ++ (34 :: (32 :: (105 :: (93 :: r)))))) := ha2.next.next
  obtain ⟨q, hq⟩ : ∃ q, q = j + 2 := ⟨_, rfl⟩
  rw [← hq] at haq
  have hqlt := haq.lt
  have hqlt1 : (q : Int) < (s.size : Int) := by omega
  have hgq := haq.get
  have q1 : ((s[q].toNat : Int) == 39) = false := by rw [hgq]; rfl
  have q2 : ((s[q].toNat : Int) == 34) = true := by rw [hgq]; rfl
  obtain ⟨x, hx⟩ : ∃ x, x = q + 1 + v.length + 1 := ⟨_, rfl⟩
  have hax : At s x (32 :: (105 :: (93 :: r))) := by rw [hx]; exact haq.next.skip.next
  obtain ⟨y, hy⟩ : ∃ y, y = x + 1 := ⟨_, rfl⟩
  have hay : At s y (105 :: (93 :: r)) := by rw [hy]; exact hax.next
  have haz : At s (y + 1) (93 :: r) := hay.next
  have hyl := hay.lt
  have hyl1 : (y : Int) < (s.size : Int) := by omega
  have hgy := hay.get
  have y1 : ((s[y].toNat : Int) == 105) = true := by rw [hgy]; rfl
  obtain ⟨z, hz⟩ : ∃ z, z = y + 1 := ⟨_, rfl⟩
  rw [← hz] at haz
  have hzl := haz.lt
  have hzl1 : (z : Int) < (s.size : Int) := by omega
  have hgz := haz.get
  have z1 : ((s[z].toNat : Int) != 93) = false := by rw [hgz]; rfl
  have hend : i + 1 + n.length + 2 + 1 + v.length + 1 + 3 = z + 1 := by omega
  rw [hend]
  have HA := Lib.hid ha.next
  have HA2 := Lib.hid ha2
  have HAQ := Lib.hid haq
  have HAX := Lib.hid hax
  have HAZ := Lib.hid haz
  have HJ := Lib.hid hj
  have HX := Lib.hid hx
  have HNQ := Lib.hid hq
  have HY := Lib.hid hy
  have HNZ := Lib.hid hz
  have HN := Lib.hid hn
  have HH := Lib.hid hh
  have HV := Lib.hid hv
  have HVE := Lib.hid h0v
  have HNE : n ≠ [] := by intro e; rw [e] at hh; simp [headSmall] at hh
  have hbp := hp.lt
  have HB := Lib.hid (heap_alloc_new w (.cells #[.string ⟨#[]⟩, .string ⟨#[]⟩, .string ⟨#[]⟩, .bool false] 165))
  have HQ := Lib.hid (St.start (hp.alloc (.cells #[.string ⟨#[]⟩, .string ⟨#[]⟩, .string ⟨#[]⟩, .bool false] 165)))
  clear ha hn hh hv h0v hp hg0 hg2 hgq hgz ha2 haq hax haz hj hx hq hgy hay hy hz hend
  go_enter Tryz.func82, Tryz.ntmps82
  go_wp2_with fail
  go_quiet (fail)
  go_wp2_with fail
  go_quiet (fail)
  go_wp2_with (first | (go_at_call 70; refine (skip_none _ bp s (i + 1) d _ (by exact ((HQ.out.drewN _).setI _ _ (by omega)).ps) HA.out hs (head_no_skip HN.out HNE)).mono ?_; rintro e w' ⟨rfl, hp2, hm2⟩; have HQ2 := Lib.hid (((HQ.out.drewN _).setI (i + 1) _ (by omega)).after hp2 hm2); clear hp2 hm2) | (go_at_call 87; refine (parseIdent_any _ bp s (i + 1) d n _ HQ2.out.ps HA.out hs HN.out HH.out (headP_cons (by simp [stopC]))).mono ?_; rintro e w' ⟨rfl, hp2, hm2⟩; rw [← HJ.out] at hp2; have HQ3 := Lib.hid (HQ2.out.after hp2 hm2); clear hp2 hm2) | (go_at_call 88; refine (lower_any n _ HN.out hlen).mono ?_; rintro e w'' ⟨rfl, rfl⟩) | (go_at_call 70; refine (skip_none _ bp s j d _ HQ3.out.ps HA2.out hs (ns_cons (by decide))).mono ?_; rintro e w' ⟨rfl, hp2, hm2⟩; have HQ4 := Lib.hid (HQ3.out.after hp2 hm2); clear hp2 hm2))
  have k10 := HQ4.out.c0
  have k11 := HQ4.out.c1
  have k12 := HQ4.out.f1
  clear h0 h1 f1
  go_quiet (fail)
  go_wp2_with fail
  go_quiet (fail)
  go_wp2_with fail
  go_quiet (fail)
  go_wp2_with fail
  go_quiet (fail)
  go_wp2_with (go_at_call 70; refine (skip_none _ bp s q d _ (by exact ((HQ4.out.drewN _).setI _ _ (by have := HNQ.out; omega)).ps) HAQ.out hs (ns_cons (by decide))).mono ?_; rintro e w' ⟨rfl, hp2, hm2⟩; have HQ5 := Lib.hid (((HQ4.out.drewN _).setI q _ (by have := HNQ.out; omega)).after hp2 hm2); clear hp2 hm2)
  have k20 := HQ5.out.c0
  have k21 := HQ5.out.c1
  have k22 := HQ5.out.f1
  clear k10 k11 k12
  go_quiet (fail)
  go_wp2_with fail
  go_quiet (fail)
  go_wp2_with (first | (go_at_call 90; refine (parseString_any _ bp s q d v _ (by exact (HQ5.out.drewN _).ps) HAQ.out hs HV.out HVE.out).mono ?_; rintro e w' ⟨rfl, hp2, hm2⟩; rw [← HX.out] at hp2; have HQ6 := Lib.hid ((HQ5.out.drewN _).after hp2 hm2); clear hp2 hm2) | (go_at_call 70; refine (skip_one _ bp s x d 105 _ HQ6.out.ps HAX.out hs (by decide)).mono ?_; rintro e w' ⟨rfl, hp2, hm2⟩; rw [← HY.out] at hp2; have HQ7 := Lib.hid (HQ6.out.after hp2 hm2); clear hp2 hm2))
  have k30 := HQ7.out.c0
  have k31 := HQ7.out.c1
  have k32 := HQ7.out.f1
  clear k20 k21 k22
  go_quiet (fail)
  go_wp2_with fail
  go_quiet (fail)
  go_wp2_with (go_at_call 70; refine (skip_none _ bp s z d _ (by exact ((HQ7.out.drewN _).setI _ _ (by have := HNZ.out; omega)).ps) HAZ.out hs (ns_cons (by decide))).mono ?_; rintro e w' ⟨rfl, hp2, hm2⟩; have HQ8 := Lib.hid (((HQ7.out.drewN _).setI z _ (by have := HNZ.out; omega)).after hp2 hm2); clear hp2 hm2)
  have k40 := HQ8.out.c0
  have k41 := HQ8.out.c1
  have k42 := HQ8.out.f1
  clear k30 k31 k32
  have hb := HQ8.out.heap HB.out (by omega)
  have b0 := cell_of_heap hb 0
  have b1 := cell_of_heap hb 1
  have b2 := cell_of_heap hb 2
  have b3 := cell_of_heap hb 3
  have b4 := free_of_heap hb 0
  have b5 := free_of_heap hb 1
  have b6 := free_of_heap hb 2
  have b7 := free_of_heap hb 3
  simp only [List.getElem?_toArray, List.getElem?_cons_zero, List.getElem?_cons_succ] at b0 b1 b2 b3
  clear hb
  go_quiet (fail)
  go_wp2_with fail
  go_quiet (fail)
  go_wp2_with fail
  exact bodyPost_ret (v := .tuple #[.agg #[.string (bs n), .string (bs v), .string ⟨#[124, 61]⟩, .bool true], .nilIface]) (by simp [results, Tryz.results82, go_sem, b0, b1, b2, b3]) rfl (((((((HQ8.out.low.drewN _).setI (z + 1) _ (by omega)).setNew (Nat.le_refl _) hbp _ _).setNew (Nat.le_refl _) hbp _ _).setNew (Nat.le_refl _) hbp _ _).setNew (Nat.le_refl _) hbp _ _).post _)

set_option maxRecDepth 100000 in
set_option maxHeartbeats 4000000 in
theorem parseAttr_pf (w : World) (bp : Nat) (s : ByteArray) (i d : Nat) (n v r : List UInt8) (hp : PS w bp s i d) (ha : At s i (91 :: (n ++ (94 :: (61 :: (34 :: (v ++ (34 :: (93 :: r))))))))) (hs : s.size ≤ 140737488351232)
    (hn : n.all nch = true) (hh : headSmall n = true) (hv : v.all vch = true) (h0v : v ≠ []) :
    Calls Tryz.prog 82 #[.pointer (some ⟨bp, 0, none⟩)] w (PPost w bp s (i + 1 + n.length + 2 + 1 + v.length + 1 + 1) d (.tuple #[.agg #[.string (bs n), .string (bs v), .string ⟨#[94, 61]⟩, .bool false], .nilIface])) := by
  have h0 := hp.c0
  have h1 := hp.c1
  have f1 := hp.f1
  have hlt0 := ha.lt
  have hlt1 : (i : Int) < (s.size : Int) := by omega
  have hg0 := ha.get
  have e0 : ((s[i].toNat : Int) != 91) = false := by rw [hg0]; rfl
  have hlen : n.length ≤ 140737488351232 := by have := ha.len; simp at this; omega
  obtain ⟨j, hj⟩ : ∃ j, j = i + 1 + n.length := ⟨_, rfl⟩
  have ha2 : At s j (94 :: (61 :: (34 :: (v ++ (34 :: (93 :: r)))))) := by rw [hj]; exact ha.next.skip
  have hlt2 := ha2.lt
  have hlt3 : (j : Int) < (s.size : Int) := by omega
  have hg2 := ha2.get
  have e2 : ((s[j].toNat : Int) == 93) = false := by rw [hg2]; rfl
  have hlong : ¬ ((s.size : Int) ≤ (j : Int) + 2) := by have := ha2.len; simp at this; omega
  have hsl : ∀ wx, (Instr.slice 9 (.string s) (some (.int .i64 (j : Int))) (some (.int .i64 ((j : Int) + 2))) none).run Tryz.prog wx = .ok (.string ⟨#[94, 61]⟩) wx := slice_at (l := [94, 61]) ha2
  have haq : At s (j + 2) (34 :: (v ++ (34 :: (93 :: r)))) := ha2.next.next
  obtain ⟨q, hq⟩ : ∃ q, q = j + 2 := ⟨_, rfl⟩
  rw [← hq] at haq
  have hqlt := haq.lt
  have hqlt1 : (q : Int) < (s.size : Int) := by omega
  have hgq := haq.get
  have q1 : ((s[q].toNat : Int) == 39) = false := by rw [hgq]; rfl
  have q2 : ((s[q].toNat : Int) == 34) = true := by rw [hgq]; rfl
  obtain ⟨x, hx⟩ : ∃ x, x = q + 1 + v.length + 1 := ⟨_, rfl⟩
  have hax : At s x (93 :: r) := by rw [hx]; exact haq.next.skip.next
  have haz : At s x (93 :: r) := hax
  obtain ⟨z, hz⟩ : ∃ z, z = x := ⟨_, rfl⟩
  rw [← hz] at haz
  have hzl := haz.lt
  have hzl1 : (z : Int) < (s.size : Int) := by omega
  have hgz := haz.get
  have z1 : ((s[z].toNat : Int) != 93) = false := by rw [hgz]; rfl
  obtain rfl := hz
  have z2 : ((s[z].toNat : Int) == 105) = false := by rw [hgz]; rfl
  have z3 : ((s[z].toNat : Int) == 73) = false := by rw [hgz]; rfl
  have hend : i + 1 + n.length + 2 + 1 + v.length + 1 + 1 = z + 1 := by omega
  rw [hend]
  have HA := Lib.hid ha.next
  have HA2 := Lib.hid ha2
  have HAQ := Lib.hid haq
  have HAX := Lib.hid hax
  have HAZ := Lib.hid haz
  have HJ := Lib.hid hj
  have HX := Lib.hid hx
  have HNQ := Lib.hid hq
  have HN := Lib.hid hn
  have HH := Lib.hid hh
  have HV := Lib.hid hv
  have HVE := Lib.hid h0v
  have HNE : n ≠ [] := by intro e; rw [e] at hh; simp [headSmall] at hh
  have hbp := hp.lt
  have HB := Lib.hid (heap_alloc_new w (.cells #[.string ⟨#[]⟩, .string ⟨#[]⟩, .string ⟨#[]⟩, .bool false] 165))
  have HQ := Lib.hid (St.start (hp.alloc (.cells #[.string ⟨#[]⟩, .string ⟨#[]⟩, .string ⟨#[]⟩, .bool false] 165)))
  clear ha hn hh hv h0v hp hg0 hg2 hgq hgz ha2 haq hax haz hj hx hq hend
  go_enter Tryz.func82, Tryz.ntmps82
  go_wp2_with fail
  go_quiet (fail)
  go_wp2_with fail
  go_quiet (fail)
  go_wp2_with (first | (go_at_call 70; refine (skip_none _ bp s (i + 1) d _ (by exact ((HQ.out.drewN _).setI _ _ (by omega)).ps) HA.out hs (head_no_skip HN.out HNE)).mono ?_; rintro e w' ⟨rfl, hp2, hm2⟩; have HQ2 := Lib.hid (((HQ.out.drewN _).setI (i + 1) _ (by omega)).after hp2 hm2); clear hp2 hm2) | (go_at_call 87; refine (parseIdent_any _ bp s (i + 1) d n _ HQ2.out.ps HA.out hs HN.out HH.out (headP_cons (by simp [stopC]))).mono ?_; rintro e w' ⟨rfl, hp2, hm2⟩; rw [← HJ.out] at hp2; have HQ3 := Lib.hid (HQ2.out.after hp2 hm2); clear hp2 hm2) | (go_at_call 88; refine (lower_any n _ HN.out hlen).mono ?_; rintro e w'' ⟨rfl, rfl⟩) | (go_at_call 70; refine (skip_none _ bp s j d _ HQ3.out.ps HA2.out hs (ns_cons (by decide))).mono ?_; rintro e w' ⟨rfl, hp2, hm2⟩; have HQ4 := Lib.hid (HQ3.out.after hp2 hm2); clear hp2 hm2))
  have k10 := HQ4.out.c0
  have k11 := HQ4.out.c1
  have k12 := HQ4.out.f1
  clear h0 h1 f1
  go_quiet (fail)
  go_wp2_with fail
  go_quiet (fail)
  go_wp2_with fail
  go_quiet (fail)
  go_wp2_with fail
  go_quiet (fail)
  go_wp2_with (go_at_call 70; refine (skip_none _ bp s q d _ (by exact ((HQ4.out.drewN _).setI _ _ (by have := HNQ.out; omega)).ps) HAQ.out hs (ns_cons (by decide))).mono ?_; rintro e w' ⟨rfl, hp2, hm2⟩; have HQ5 := Lib.hid (((HQ4.out.drewN _).setI q _ (by have := HNQ.out; omega)).after hp2 hm2); clear hp2 hm2)
  have k20 := HQ5.out.c0
  have k21 := HQ5.out.c1
  have k22 := HQ5.out.f1
  clear k10 k11 k12
  go_quiet (fail)
  go_wp2_with fail
  go_quiet (fail)
  go_wp2_with (first | (go_at_call 90; refine (parseString_any _ bp s q d v _ (by exact (HQ5.out.drewN _).ps) HAQ.out hs HV.out HVE.out).mono ?_; rintro e w' ⟨rfl, hp2, hm2⟩; rw [← HX.out] at hp2; have HQ6 := Lib.hid ((HQ5.out.drewN _).after hp2 hm2); clear hp2 hm2) | (go_at_call 70; refine (skip_none _ bp s z d _ HQ6.out.ps HAX.out hs (ns_cons (by decide))).mono ?_; rintro e w' ⟨rfl, hp2, hm2⟩; have HQ7 := Lib.hid (HQ6.out.after hp2 hm2); clear hp2 hm2))
  have k30 := HQ7.out.c0
  have k31 := HQ7.out.c1
  have k32 := HQ7.out.f1
  clear k20 k21 k22
  go_quiet (fail)
  go_wp2_with fail
  go_quiet (fail)
  go_wp2_with (go_at_call 70; refine (skip_none _ bp s z d _ (by exact (HQ7.out.drewN _).ps) HAZ.out hs (ns_cons (by decide))).mono ?_; rintro e w' ⟨rfl, hp2, hm2⟩; have HQ8 := Lib.hid ((HQ7.out.drewN _).after hp2 hm2); clear hp2 hm2)
  have k40 := HQ8.out.c0
  have k41 := HQ8.out.c1
  have k42 := HQ8.out.f1
  clear k30 k31 k32
  have hb := HQ8.out.heap HB.out (by omega)
  have b0 := cell_of_heap hb 0
  have b1 := cell_of_heap hb 1
  have b2 := cell_of_heap hb 2
  have b3 := cell_of_heap hb 3
  have b4 := free_of_heap hb 0
  have b5 := free_of_heap hb 1
  have b6 := free_of_heap hb 2
  have b7 := free_of_heap hb 3
  simp only [List.getElem?_toArray, List.getElem?_cons_zero, List.getElem?_cons_succ] at b0 b1 b2 b3
  clear hb
  go_quiet (fail)
  go_wp2_with fail
  go_quiet (fail)
  go_wp2_with fail
  exact bodyPost_ret (v := .tuple #[.agg #[.string (bs n), .string (bs v), .string ⟨#[94, 61]⟩, .bool false], .nilIface]) (by simp [results, Tryz.results82, go_sem, b0, b1, b2, b3]) rfl (((((((HQ8.out.low.drewN _).setI (z + 1) _ (by omega)).setNew (Nat.le_refl _) hbp _ _).setNew (Nat.le_refl _) hbp _ _).setNew (Nat.le_refl _) hbp _ _).setNew (Nat.le_refl _) hbp _ _).post _)

set_option maxRecDepth 100000 in
set_option maxHeartbeats 4000000 in
theorem parseAttr_pf_i (w : World) (bp : Nat) (s : ByteArray) (i d : Nat) (n v r : List UInt8) (hp : PS w bp s i d) (ha : At s i (91 :: (n ++ (94 :: (61 :: (34 :: (v ++ (34 :: (32 :: (105 :: (93 :: r))))))))))) (hs : s.size ≤ 140737488351232)
    (hn : n.all nch = true) (hh : headSmall n = true) (hv : v.all vch = true) (h0v : v ≠ []) :
    Calls Tryz.prog 82 #[.pointer (some ⟨bp, 0, none⟩)] w (PPost w bp s (i + 1 + n.length + 2 + 1 + v.length + 1 + 3) d (.tuple #[.agg #[.string (bs n), .string (bs v), .string ⟨#[94, 61]⟩, .bool true], .nilIface])) := by
  have h0 := hp.c0
  have h1 := hp.c1
  have f1 := hp.f1
  have hlt0 := ha.lt
  have hlt1 : (i : Int) < (s.size : Int) := by omega
  have hg0 := ha.get
  have e0 : ((s[i].toNat : Int) != 91) = false := by rw [hg0]; rfl
  have hlen : n.length ≤ 140737488351232 := by have := ha.len; simp at this; omega
  obtain ⟨j, hj⟩ : ∃ j, j = i + 1 + n.length := ⟨_, rfl⟩
  have ha2 : At s j (94 :: (61 :: (34 :: (v ++ (34 :: (32 :: (105 :: (93 :: r)))))))) := by rw [hj]; exact ha.next.skip
  have hlt2 := ha2.lt
  have hlt3 : (j : Int) < (s.size : Int) := by omega
  have hg2 := ha2.get
  have e2 : ((s[j].toNat : Int) == 93) = false := by rw [hg2]; rfl
  have hlong : ¬ ((s.size : Int) ≤ (j : Int) + 2) := by have := ha2.len; simp at this; omega
  have hsl : ∀ wx, (Instr.slice 9 (.string s) (some (.int .i64 (j : Int))) (some (.int .i64 ((j : Int) + 2))) none).run Tryz.prog wx = .ok (.string ⟨#[94, 61]⟩) wx := slice_at (l := [94, 61]) ha2
  have haq : At s (j + 2) (34 :: (v ++ (34 :: (32 :: (105 :: (93 :: r)))))) := ha2.next.next
  obtain ⟨q, hq⟩ : ∃ q, q = j + 2 := ⟨_, rfl⟩
  rw [← hq] at haq
  have hqlt := haq.lt
  have hqlt1 : (q : Int) < (s.size : Int) := by omega
  have hgq := haq.get
  have q1 : ((s[q].toNat : Int) == 39) = false := by rw [hgq]; rfl
  have q2 : ((s[q].toNat : Int) == 34) = true := by rw [hgq]; rfl
  obtain ⟨x, hx⟩ : ∃ x, x = q + 1 + v.length + 1 := ⟨_, rfl⟩
  have hax : At s x (32 :: (105 :: (93 :: r))) := by rw [hx]; exact haq.next.skip.next
  obtain ⟨y, hy⟩ : ∃ y, y = x + 1 := ⟨_, rfl⟩
  have hay : At s y (105 :: (93 :: r)) := by rw [hy]; exact hax.next
  have haz : At s (y + 1) (93 :: r) := hay.next
  have hyl := hay.lt
  have hyl1 : (y : Int) < (s.size : Int) := by omega
  have hgy := hay.get
  have y1 : ((s[y].toNat : Int) == 105) = true := by rw [hgy]; rfl
  obtain ⟨z, hz⟩ : ∃ z, z = y + 1 := ⟨_, rfl⟩
  rw [← hz] at haz
  have hzl := haz.lt
  have hzl1 : (z : Int) < (s.size : Int) := by omega
  have hgz := haz.get
  have z1 : ((s[z].toNat : Int) != 93) = false := by rw [hgz]; rfl
  have hend : i + 1 + n.length + 2 + 1 + v.length + 1 + 3 = z + 1 := by omega
  rw [hend]
  have HA := Lib.hid ha.next
  have HA2 := Lib.hid ha2
  have HAQ := Lib.hid haq
  have HAX := Lib.hid hax
  have HAZ := Lib.hid haz
  have HJ := Lib.hid hj
  have HX := Lib.hid hx
  have HNQ := Lib.hid hq
  have HY := Lib.hid hy
  have HNZ := Lib.hid hz
  have HN := Lib.hid hn
  have HH := Lib.hid hh
  have HV := Lib.hid hv
  have HVE := Lib.hid h0v
  have HNE : n ≠ [] := by intro e; rw [e] at hh; simp [headSmall] at hh
  have hbp := hp.lt
  have HB := Lib.hid (heap_alloc_new w (.cells #[.string ⟨#[]⟩, .string ⟨#[]⟩, .string ⟨#[]⟩, .bool false] 165))
  have HQ := Lib.hid (St.start (hp.alloc (.cells #[.string ⟨#[]⟩, .string ⟨#[]⟩, .string ⟨#[]⟩, .bool false] 165)))
  clear ha hn hh hv h0v hp hg0 hg2 hgq hgz ha2 haq hax haz hj hx hq hgy hay hy hz hend
  go_enter Tryz.func82, Tryz.ntmps82
  go_wp2_with fail
  go_quiet (fail)
  go_wp2_with fail
  go_quiet (fail)
  go_wp2_with (first | (go_at_call 70; refine (skip_none _ bp s (i + 1) d _ (by exact ((HQ.out.drewN _).setI _ _ (by omega)).ps) HA.out hs (head_no_skip HN.out HNE)).mono ?_; rintro e w' ⟨rfl, hp2, hm2⟩; have HQ2 := Lib.hid (((HQ.out.drewN _).setI (i + 1) _ (by omega)).after hp2 hm2); clear hp2 hm2) | (go_at_call 87; refine (parseIdent_any _ bp s (i + 1) d n _ HQ2.out.ps HA.out hs HN.out HH.out (headP_cons (by simp [stopC]))).mono ?_; rintro e w' ⟨rfl, hp2, hm2⟩; rw [← HJ.out] at hp2; have HQ3 := Lib.hid (HQ2.out.after hp2 hm2); clear hp2 hm2) | (go_at_call 88; refine (lower_any n _ HN.out hlen).mono ?_; rintro e w'' ⟨rfl, rfl⟩) | (go_at_call 70; refine (skip_none _ bp s j d _ HQ3.out.ps HA2.out hs (ns_cons (by decide))).mono ?_; rintro e w' ⟨rfl, hp2, hm2⟩; have HQ4 := Lib.hid (HQ3.out.after hp2 hm2); clear hp2 hm2))
  have k10 := HQ4.out.c0
  have k11 := HQ4.out.c1
  have k12 := HQ4.out.f1
  clear h0 h1 f1
  go_quiet (fail)
  go_wp2_with fail
  go_quiet (fail)
  go_wp2_with fail
  go_quiet (fail)
  go_wp2_with fail
  go_quiet (fail)
  go_wp2_with (go_at_call 70; refine (skip_none _ bp s q d _ (by exact ((HQ4.out.drewN _).setI _ _ (by have := HNQ.out; omega)).ps) HAQ.out hs (ns_cons (by decide))).mono ?_; rintro e w' ⟨rfl, hp2, hm2⟩; have HQ5 := Lib.hid (((HQ4.out.drewN _).setI q _ (by have := HNQ.out; omega)).after hp2 hm2); clear hp2 hm2)
  have k20 := HQ5.out.c0
  have k21 := HQ5.out.c1
  have k22 := HQ5.out.f1
  clear k10 k11 k12
  go_quiet (fail)
  go_wp2_with fail
  go_quiet (fail)
  go_wp2_with (first | (go_at_call 90; refine (parseString_any _ bp s q d v _ (by exact (HQ5.out.drewN _).ps) HAQ.out hs HV.out HVE.out).mono ?_; rintro e w' ⟨rfl, hp2, hm2⟩; rw [← HX.out] at hp2; have HQ6 := Lib.hid ((HQ5.out.drewN _).after hp2 hm2); clear hp2 hm2) | (go_at_call 70; refine (skip_one _ bp s x d 105 _ HQ6.out.ps HAX.out hs (by decide)).mono ?_; rintro e w' ⟨rfl, hp2, hm2⟩; rw [← HY.out] at hp2; have HQ7 := Lib.hid (HQ6.out.after hp2 hm2); clear hp2 hm2))
  have k30 := HQ7.out.c0
  have k31 := HQ7.out.c1
  have k32 := HQ7.out.f1
  clear k20 k21 k22
  go_quiet (fail)
  go_wp2_with fail
  go_quiet (fail)
  go_wp2_with (go_at_call 70; refine (skip_none _ bp s z d _ (by exact ((HQ7.out.drewN _).setI _ _ (by have := HNZ.out; omega)).ps) HAZ.out hs (ns_cons (by decide))).mono ?_; rintro e w' ⟨rfl, hp2, hm2⟩; have HQ8 := Lib.hid (((HQ7.out.drewN _).setI z _ (by have := HNZ.out; omega)).after hp2 hm2); clear hp2 hm2)
  have k40 := HQ8.out.c0
  have k41 := HQ8.out.c1
  have k42 := HQ8.out.f1
  clear k30 k31 k32
  have hb := HQ8.out.heap HB.out (by omega)
  have b0 := cell_of_heap hb 0
  have b1 := cell_of_heap hb 1
  have b2 := cell_of_heap hb 2
  have b3 := cell_of_heap hb 3
  have b4 := free_of_heap hb 0
  have b5 := free_of_heap hb 1
  have b6 := free_of_heap hb 2
  have b7 := free_of_heap hb 3
  simp only [List.getElem?_toArray, List.getElem?_cons_zero, List.getElem?_cons_succ] at b0 b1 b2 b3
  clear hb
  go_quiet (fail)
  go_wp2_with fail
  go_quiet (fail)
  go_wp2_with fail
  exact bodyPost_ret (v := .tuple #[.agg #[.string (bs n), .string (bs v), .string ⟨#[94, 61]⟩, .bool true], .nilIface]) (by simp [results, Tryz.results82, go_sem, b0, b1, b2, b3]) rfl (((((((HQ8.out.low.drewN _).setI (z + 1) _ (by omega)).setNew (Nat.le_refl _) hbp _ _).setNew (Nat.le_refl _) hbp _ _).setNew (Nat.le_refl _) hbp _ _).setNew (Nat.le_refl _) hbp _ _).post _)

end Go.Proofs.YteaapgijeehhfaaGreatDoor
