/- The parser reads how a count is asked (pp); printed by gennth.py. -/
import Derived.Test.YteaapgijeehhfaaGreatDoorZ08
namespace Go.Proofs.YteaapgijeehhfaaGreatDoor
open Go.RowKit

set_option maxRecDepth 100000 in
set_option maxHeartbeats 4000000 in
theorem nth_p0p (w : World) (bp : Nat) (s : ByteArray) (i d : Nat) (cb : UInt8) (vb : Int) (r : List UInt8) (hp : PS w bp s i d) (ha : At s i (48 :: (110 :: (43 :: (cb :: (41 :: r)))))) (hs : s.size ≤ 140737488351232) (hc : figC cb) (hv : (cb.toNat : Int) - 48 = vb) :
    Calls Tryz.prog 94 #[.pointer (some ⟨bp, 0, none⟩)] w (PPost w bp s (i + 4) d (.tuple #[.int .i64 0, .int .i64 vb, .nilIface])) := by
  have h0 := hp.c0
  have h1 := hp.c1
  have f1 := hp.f1
  have hv1 : 0 ≤ vb ∧ vb ≤ 9 := by have := hc.1; have := hc.2; omega
  have hlt0 := ha.lt
  have hlt0i : (i : Int) < (s.size : Int) := by omega
  have hg0 := ha.get
  have hap := ha
  have hgp := hg0
  have e45 : ((s[i].toNat : Int) == 45) = false := by rw [hgp]; rfl
  have e43 : ((s[i].toNat : Int) == 43) = false := by rw [hgp]; rfl
  have d48 : ((s[i].toNat : Int) == 48) = true := by rw [hgp]; rfl
  obtain ⟨q, hqq⟩ : ∃ q, q = i + 1 := ⟨_, rfl⟩
  have haq : At s q (110 :: (43 :: (cb :: (41 :: r)))) := by rw [hqq]; exact hap.next
  have hltq := haq.lt
  have hltqi : (q : Int) < (s.size : Int) := by omega
  have hgq := haq.get
  obtain ⟨t, htt⟩ : ∃ t, t = q + 1 := ⟨_, rfl⟩
  have hat : At s t (43 :: (cb :: (41 :: r))) := by rw [htt]; exact haq.next
  have hltt := hat.lt
  have hltti : (t : Int) < (s.size : Int) := by omega
  have hgt := hat.get
  obtain ⟨x, hxx⟩ : ∃ x, x = t + 1 := ⟨_, rfl⟩
  have hax : At s x (cb :: (41 :: r)) := by rw [hxx]; exact hat.next
  have hltx := hax.lt
  have hltxi : (x : Int) < (s.size : Int) := by omega
  have n1 : ((s[q].toNat : Int) == 110) = true := by rw [hgq]; rfl
  have s1 : ((s[t].toNat : Int) == 43) = true := by rw [hgt]; rfl
  have hend : i + 4 = x + 1 := by omega
  rw [hend]
  have HAP := Lib.hid hap
  have HAQ := Lib.hid haq
  have HAT := Lib.hid hat
  have HAX := Lib.hid hax
  have HQQ := Lib.hid hqq
  have HTT := Lib.hid htt
  have HXX := Lib.hid hxx
  have HC := Lib.hid hc
  have HV := Lib.hid hv
  have HQ0 := Lib.hid (St.start hp)
  clear hp ha hap haq hat hax hg0 hgp hgq hgt hqq htt hxx hc hv hend
  go_enter Tryz.func94, Tryz.ntmps94
  go_wp2_with fail
  refine wp_scope_jumpN 4 ?_
  go_wp2_with fail
  go_quiet (fail)
  go_wp2_with fail
  go_quiet (fail)
  go_wp2_with fail
  go_step3
  refine jumpN_goto _ _ _ rfl ?_
  go_wp2_with fail
  go_quiet (fail)
  go_wp2_with fail
  go_quiet (fail)
  go_wp2_with (go_at_call 102; refine (parseInt_lit _ bp s i d 48 0 _ (by exact (HQ0.out.drewN _).ps) HAP.out hs ⟨by decide, by decide⟩ (headP_cons (by decide)) (by rfl)).mono ?_; rintro e w' ⟨rfl, hp2, hm2⟩; rw [← HQQ.out] at hp2; have HQ1 := Lib.hid ((HQ0.out.drewN _).after hp2 hm2); clear hp2 hm2)
  have k10 := HQ1.out.c0
  have k11 := HQ1.out.c1
  have k12 := HQ1.out.f1
  clear h0 h1 f1
  go_step3
  refine jumpN_goto _ _ _ rfl ?_
  go_wp2_with fail
  go_quiet (fail)
  go_wp2_with fail
  go_quiet (fail)
  go_wp2_with fail
  go_step3
  refine jumpN_goto _ _ _ rfl ?_
  go_wp2_with (go_at_call 70; refine (skip_none _ bp s t d _ (by exact ((HQ1.out.drewN _).setI _ _ (by have := HTT.out; omega)).ps) HAT.out hs (ns_cons (by decide))).mono ?_; rintro e w' ⟨rfl, hp2, hm2⟩; have HQ2 := Lib.hid (((HQ1.out.drewN _).setI t _ (by have := HTT.out; omega)).after hp2 hm2); clear hp2 hm2)
  have k20 := HQ2.out.c0
  have k21 := HQ2.out.c1
  have k22 := HQ2.out.f1
  clear k10 k11 k12
  go_quiet (fail)
  go_wp2_with fail
  go_quiet (fail)
  go_wp2_with (first | (go_at_call 70; refine (skip_none _ bp s x d _ (by exact ((HQ2.out.drewN _).setI _ _ (by have := HXX.out; omega)).ps) HAX.out hs (by intro c hc; simp at hc; subst hc; have h1 := HC.out.1; have h2 := HC.out.2; omega)).mono ?_; rintro e w' ⟨rfl, hp2, hm2⟩; have HQ3 := Lib.hid (((HQ2.out.drewN _).setI x _ (by have := HXX.out; omega)).after hp2 hm2); clear hp2 hm2) | (go_at_call 102; refine (parseInt_lit _ bp s x d cb vb _ HQ3.out.ps HAX.out hs HC.out (headP_cons (by decide)) HV.out).mono ?_; rintro e w' ⟨rfl, hp2, hm2⟩; have HQ4 := Lib.hid (HQ3.out.after hp2 hm2); clear hp2 hm2))
  rw [jumpN_ret]
  exact bodyPost_ret (v := .tuple #[.int .i64 0, .int .i64 vb, .nilIface]) (by simp [results, Tryz.results94, go_sem]) rfl (HQ4.out.post _)

set_option maxRecDepth 100000 in
set_option maxHeartbeats 4000000 in
theorem nth_p1p (w : World) (bp : Nat) (s : ByteArray) (i d : Nat) (cb : UInt8) (vb : Int) (r : List UInt8) (hp : PS w bp s i d) (ha : At s i (49 :: (110 :: (43 :: (cb :: (41 :: r)))))) (hs : s.size ≤ 140737488351232) (hc : figC cb) (hv : (cb.toNat : Int) - 48 = vb) :
    Calls Tryz.prog 94 #[.pointer (some ⟨bp, 0, none⟩)] w (PPost w bp s (i + 4) d (.tuple #[.int .i64 1, .int .i64 vb, .nilIface])) := by
  have h0 := hp.c0
  have h1 := hp.c1
  have f1 := hp.f1
  have hv1 : 0 ≤ vb ∧ vb ≤ 9 := by have := hc.1; have := hc.2; omega
  have hlt0 := ha.lt
  have hlt0i : (i : Int) < (s.size : Int) := by omega
  have hg0 := ha.get
  have hap := ha
  have hgp := hg0
  have e45 : ((s[i].toNat : Int) == 45) = false := by rw [hgp]; rfl
  have e43 : ((s[i].toNat : Int) == 43) = false := by rw [hgp]; rfl
  have d48 : ((s[i].toNat : Int) == 48) = false := by rw [hgp]; rfl
  have d49 : ((s[i].toNat : Int) == 49) = true := by rw [hgp]; rfl
  obtain ⟨q, hqq⟩ : ∃ q, q = i + 1 := ⟨_, rfl⟩
  have haq : At s q (110 :: (43 :: (cb :: (41 :: r)))) := by rw [hqq]; exact hap.next
  have hltq := haq.lt
  have hltqi : (q : Int) < (s.size : Int) := by omega
  have hgq := haq.get
  obtain ⟨t, htt⟩ : ∃ t, t = q + 1 := ⟨_, rfl⟩
  have hat : At s t (43 :: (cb :: (41 :: r))) := by rw [htt]; exact haq.next
  have hltt := hat.lt
  have hltti : (t : Int) < (s.size : Int) := by omega
  have hgt := hat.get
  obtain ⟨x, hxx⟩ : ∃ x, x = t + 1 := ⟨_, rfl⟩
  have hax : At s x (cb :: (41 :: r)) := by rw [hxx]; exact hat.next
  have hltx := hax.lt
  have hltxi : (x : Int) < (s.size : Int) := by omega
  have n1 : ((s[q].toNat : Int) == 110) = true := by rw [hgq]; rfl
  have s1 : ((s[t].toNat : Int) == 43) = true := by rw [hgt]; rfl
  have hend : i + 4 = x + 1 := by omega
  rw [hend]
  have HAP := Lib.hid hap
  have HAQ := Lib.hid haq
  have HAT := Lib.hid hat
  have HAX := Lib.hid hax
  have HQQ := Lib.hid hqq
  have HTT := Lib.hid htt
  have HXX := Lib.hid hxx
  have HC := Lib.hid hc
  have HV := Lib.hid hv
  have HQ0 := Lib.hid (St.start hp)
  clear hp ha hap haq hat hax hg0 hgp hgq hgt hqq htt hxx hc hv hend
  go_enter Tryz.func94, Tryz.ntmps94
  go_wp2_with fail
  refine wp_scope_jumpN 4 ?_
  go_wp2_with fail
  go_quiet (fail)
  go_wp2_with fail
  go_quiet (fail)
  go_wp2_with fail
  go_step3
  refine jumpN_goto _ _ _ rfl ?_
  go_wp2_with fail
  go_quiet (fail)
  go_wp2_with fail
  go_quiet (fail)
  go_wp2_with (go_at_call 102; refine (parseInt_lit _ bp s i d 49 1 _ (by exact (HQ0.out.drewN _).ps) HAP.out hs ⟨by decide, by decide⟩ (headP_cons (by decide)) (by rfl)).mono ?_; rintro e w' ⟨rfl, hp2, hm2⟩; rw [← HQQ.out] at hp2; have HQ1 := Lib.hid ((HQ0.out.drewN _).after hp2 hm2); clear hp2 hm2)
  have k10 := HQ1.out.c0
  have k11 := HQ1.out.c1
  have k12 := HQ1.out.f1
  clear h0 h1 f1
  go_step3
  refine jumpN_goto _ _ _ rfl ?_
  go_wp2_with fail
  go_quiet (fail)
  go_wp2_with fail
  go_quiet (fail)
  go_wp2_with fail
  go_step3
  refine jumpN_goto _ _ _ rfl ?_
  go_wp2_with (go_at_call 70; refine (skip_none _ bp s t d _ (by exact ((HQ1.out.drewN _).setI _ _ (by have := HTT.out; omega)).ps) HAT.out hs (ns_cons (by decide))).mono ?_; rintro e w' ⟨rfl, hp2, hm2⟩; have HQ2 := Lib.hid (((HQ1.out.drewN _).setI t _ (by have := HTT.out; omega)).after hp2 hm2); clear hp2 hm2)
  have k20 := HQ2.out.c0
  have k21 := HQ2.out.c1
  have k22 := HQ2.out.f1
  clear k10 k11 k12
  go_quiet (fail)
  go_wp2_with fail
  go_quiet (fail)
  go_wp2_with (first | (go_at_call 70; refine (skip_none _ bp s x d _ (by exact ((HQ2.out.drewN _).setI _ _ (by have := HXX.out; omega)).ps) HAX.out hs (by intro c hc; simp at hc; subst hc; have h1 := HC.out.1; have h2 := HC.out.2; omega)).mono ?_; rintro e w' ⟨rfl, hp2, hm2⟩; have HQ3 := Lib.hid (((HQ2.out.drewN _).setI x _ (by have := HXX.out; omega)).after hp2 hm2); clear hp2 hm2) | (go_at_call 102; refine (parseInt_lit _ bp s x d cb vb _ HQ3.out.ps HAX.out hs HC.out (headP_cons (by decide)) HV.out).mono ?_; rintro e w' ⟨rfl, hp2, hm2⟩; have HQ4 := Lib.hid (HQ3.out.after hp2 hm2); clear hp2 hm2))
  rw [jumpN_ret]
  exact bodyPost_ret (v := .tuple #[.int .i64 1, .int .i64 vb, .nilIface]) (by simp [results, Tryz.results94, go_sem]) rfl (HQ4.out.post _)

set_option maxRecDepth 100000 in
set_option maxHeartbeats 4000000 in
theorem nth_p2p (w : World) (bp : Nat) (s : ByteArray) (i d : Nat) (cb : UInt8) (vb : Int) (r : List UInt8) (hp : PS w bp s i d) (ha : At s i (50 :: (110 :: (43 :: (cb :: (41 :: r)))))) (hs : s.size ≤ 140737488351232) (hc : figC cb) (hv : (cb.toNat : Int) - 48 = vb) :
    Calls Tryz.prog 94 #[.pointer (some ⟨bp, 0, none⟩)] w (PPost w bp s (i + 4) d (.tuple #[.int .i64 2, .int .i64 vb, .nilIface])) := by
  have h0 := hp.c0
  have h1 := hp.c1
  have f1 := hp.f1
  have hv1 : 0 ≤ vb ∧ vb ≤ 9 := by have := hc.1; have := hc.2; omega
  have hlt0 := ha.lt
  have hlt0i : (i : Int) < (s.size : Int) := by omega
  have hg0 := ha.get
  have hap := ha
  have hgp := hg0
  have e45 : ((s[i].toNat : Int) == 45) = false := by rw [hgp]; rfl
  have e43 : ((s[i].toNat : Int) == 43) = false := by rw [hgp]; rfl
  have d48 : ((s[i].toNat : Int) == 48) = false := by rw [hgp]; rfl
  have d49 : ((s[i].toNat : Int) == 49) = false := by rw [hgp]; rfl
  have d50 : ((s[i].toNat : Int) == 50) = true := by rw [hgp]; rfl
  obtain ⟨q, hqq⟩ : ∃ q, q = i + 1 := ⟨_, rfl⟩
  have haq : At s q (110 :: (43 :: (cb :: (41 :: r)))) := by rw [hqq]; exact hap.next
  have hltq := haq.lt
  have hltqi : (q : Int) < (s.size : Int) := by omega
  have hgq := haq.get
  obtain ⟨t, htt⟩ : ∃ t, t = q + 1 := ⟨_, rfl⟩
  have hat : At s t (43 :: (cb :: (41 :: r))) := by rw [htt]; exact haq.next
  have hltt := hat.lt
  have hltti : (t : Int) < (s.size : Int) := by omega
  have hgt := hat.get
  obtain ⟨x, hxx⟩ : ∃ x, x = t + 1 := ⟨_, rfl⟩
  have hax : At s x (cb :: (41 :: r)) := by rw [hxx]; exact hat.next
  have hltx := hax.lt
  have hltxi : (x : Int) < (s.size : Int) := by omega
  have n1 : ((s[q].toNat : Int) == 110) = true := by rw [hgq]; rfl
  have s1 : ((s[t].toNat : Int) == 43) = true := by rw [hgt]; rfl
  have hend : i + 4 = x + 1 := by omega
  rw [hend]
  have HAP := Lib.hid hap
  have HAQ := Lib.hid haq
  have HAT := Lib.hid hat
  have HAX := Lib.hid hax
  have HQQ := Lib.hid hqq
  have HTT := Lib.hid htt
  have HXX := Lib.hid hxx
  have HC := Lib.hid hc
  have HV := Lib.hid hv
  have HQ0 := Lib.hid (St.start hp)
  clear hp ha hap haq hat hax hg0 hgp hgq hgt hqq htt hxx hc hv hend
  go_enter Tryz.func94, Tryz.ntmps94
  go_wp2_with fail
  refine wp_scope_jumpN 4 ?_
  go_wp2_with fail
  go_quiet (fail)
  go_wp2_with fail
  go_quiet (fail)
  go_wp2_with fail
  go_step3
  refine jumpN_goto _ _ _ rfl ?_
  go_wp2_with fail
  go_quiet (fail)
  go_wp2_with fail
  go_quiet (fail)
  go_wp2_with (go_at_call 102; refine (parseInt_lit _ bp s i d 50 2 _ (by exact (HQ0.out.drewN _).ps) HAP.out hs ⟨by decide, by decide⟩ (headP_cons (by decide)) (by rfl)).mono ?_; rintro e w' ⟨rfl, hp2, hm2⟩; rw [← HQQ.out] at hp2; have HQ1 := Lib.hid ((HQ0.out.drewN _).after hp2 hm2); clear hp2 hm2)
  have k10 := HQ1.out.c0
  have k11 := HQ1.out.c1
  have k12 := HQ1.out.f1
  clear h0 h1 f1
  go_step3
  refine jumpN_goto _ _ _ rfl ?_
  go_wp2_with fail
  go_quiet (fail)
  go_wp2_with fail
  go_quiet (fail)
  go_wp2_with fail
  go_step3
  refine jumpN_goto _ _ _ rfl ?_
  go_wp2_with (go_at_call 70; refine (skip_none _ bp s t d _ (by exact ((HQ1.out.drewN _).setI _ _ (by have := HTT.out; omega)).ps) HAT.out hs (ns_cons (by decide))).mono ?_; rintro e w' ⟨rfl, hp2, hm2⟩; have HQ2 := Lib.hid (((HQ1.out.drewN _).setI t _ (by have := HTT.out; omega)).after hp2 hm2); clear hp2 hm2)
  have k20 := HQ2.out.c0
  have k21 := HQ2.out.c1
  have k22 := HQ2.out.f1
  clear k10 k11 k12
  go_quiet (fail)
  go_wp2_with fail
  go_quiet (fail)
  go_wp2_with (first | (go_at_call 70; refine (skip_none _ bp s x d _ (by exact ((HQ2.out.drewN _).setI _ _ (by have := HXX.out; omega)).ps) HAX.out hs (by intro c hc; simp at hc; subst hc; have h1 := HC.out.1; have h2 := HC.out.2; omega)).mono ?_; rintro e w' ⟨rfl, hp2, hm2⟩; have HQ3 := Lib.hid (((HQ2.out.drewN _).setI x _ (by have := HXX.out; omega)).after hp2 hm2); clear hp2 hm2) | (go_at_call 102; refine (parseInt_lit _ bp s x d cb vb _ HQ3.out.ps HAX.out hs HC.out (headP_cons (by decide)) HV.out).mono ?_; rintro e w' ⟨rfl, hp2, hm2⟩; have HQ4 := Lib.hid (HQ3.out.after hp2 hm2); clear hp2 hm2))
  rw [jumpN_ret]
  exact bodyPost_ret (v := .tuple #[.int .i64 2, .int .i64 vb, .nilIface]) (by simp [results, Tryz.results94, go_sem]) rfl (HQ4.out.post _)

set_option maxRecDepth 100000 in
set_option maxHeartbeats 4000000 in
theorem nth_p3p (w : World) (bp : Nat) (s : ByteArray) (i d : Nat) (cb : UInt8) (vb : Int) (r : List UInt8) (hp : PS w bp s i d) (ha : At s i (51 :: (110 :: (43 :: (cb :: (41 :: r)))))) (hs : s.size ≤ 140737488351232) (hc : figC cb) (hv : (cb.toNat : Int) - 48 = vb) :
    Calls Tryz.prog 94 #[.pointer (some ⟨bp, 0, none⟩)] w (PPost w bp s (i + 4) d (.tuple #[.int .i64 3, .int .i64 vb, .nilIface])) := by
  have h0 := hp.c0
  have h1 := hp.c1
  have f1 := hp.f1
  have hv1 : 0 ≤ vb ∧ vb ≤ 9 := by have := hc.1; have := hc.2; omega
  have hlt0 := ha.lt
  have hlt0i : (i : Int) < (s.size : Int) := by omega
  have hg0 := ha.get
  have hap := ha
  have hgp := hg0
  have e45 : ((s[i].toNat : Int) == 45) = false := by rw [hgp]; rfl
  have e43 : ((s[i].toNat : Int) == 43) = false := by rw [hgp]; rfl
  have d48 : ((s[i].toNat : Int) == 48) = false := by rw [hgp]; rfl
  have d49 : ((s[i].toNat : Int) == 49) = false := by rw [hgp]; rfl
  have d50 : ((s[i].toNat : Int) == 50) = false := by rw [hgp]; rfl
  have d51 : ((s[i].toNat : Int) == 51) = true := by rw [hgp]; rfl
  obtain ⟨q, hqq⟩ : ∃ q, q = i + 1 := ⟨_, rfl⟩
  have haq : At s q (110 :: (43 :: (cb :: (41 :: r)))) := by rw [hqq]; exact hap.next
  have hltq := haq.lt
  have hltqi : (q : Int) < (s.size : Int) := by omega
  have hgq := haq.get
  obtain ⟨t, htt⟩ : ∃ t, t = q + 1 := ⟨_, rfl⟩
  have hat : At s t (43 :: (cb :: (41 :: r))) := by rw [htt]; exact haq.next
  have hltt := hat.lt
  have hltti : (t : Int) < (s.size : Int) := by omega
  have hgt := hat.get
  obtain ⟨x, hxx⟩ : ∃ x, x = t + 1 := ⟨_, rfl⟩
  have hax : At s x (cb :: (41 :: r)) := by rw [hxx]; exact hat.next
  have hltx := hax.lt
  have hltxi : (x : Int) < (s.size : Int) := by omega
  have n1 : ((s[q].toNat : Int) == 110) = true := by rw [hgq]; rfl
  have s1 : ((s[t].toNat : Int) == 43) = true := by rw [hgt]; rfl
  have hend : i + 4 = x + 1 := by omega
  rw [hend]
  have HAP := Lib.hid hap
  have HAQ := Lib.hid haq
  have HAT := Lib.hid hat
  have HAX := Lib.hid hax
  have HQQ := Lib.hid hqq
  have HTT := Lib.hid htt
  have HXX := Lib.hid hxx
  have HC := Lib.hid hc
  have HV := Lib.hid hv
  have HQ0 := Lib.hid (St.start hp)
  clear hp ha hap haq hat hax hg0 hgp hgq hgt hqq htt hxx hc hv hend
  go_enter Tryz.func94, Tryz.ntmps94
  go_wp2_with fail
  refine wp_scope_jumpN 4 ?_
  go_wp2_with fail
  go_quiet (fail)
  go_wp2_with fail
  go_quiet (fail)
  go_wp2_with fail
  go_step3
  refine jumpN_goto _ _ _ rfl ?_
  go_wp2_with fail
  go_quiet (fail)
  go_wp2_with fail
  go_quiet (fail)
  go_wp2_with (go_at_call 102; refine (parseInt_lit _ bp s i d 51 3 _ (by exact (HQ0.out.drewN _).ps) HAP.out hs ⟨by decide, by decide⟩ (headP_cons (by decide)) (by rfl)).mono ?_; rintro e w' ⟨rfl, hp2, hm2⟩; rw [← HQQ.out] at hp2; have HQ1 := Lib.hid ((HQ0.out.drewN _).after hp2 hm2); clear hp2 hm2)
  have k10 := HQ1.out.c0
  have k11 := HQ1.out.c1
  have k12 := HQ1.out.f1
  clear h0 h1 f1
  go_step3
  refine jumpN_goto _ _ _ rfl ?_
  go_wp2_with fail
  go_quiet (fail)
  go_wp2_with fail
  go_quiet (fail)
  go_wp2_with fail
  go_step3
  refine jumpN_goto _ _ _ rfl ?_
  go_wp2_with (go_at_call 70; refine (skip_none _ bp s t d _ (by exact ((HQ1.out.drewN _).setI _ _ (by have := HTT.out; omega)).ps) HAT.out hs (ns_cons (by decide))).mono ?_; rintro e w' ⟨rfl, hp2, hm2⟩; have HQ2 := Lib.hid (((HQ1.out.drewN _).setI t _ (by have := HTT.out; omega)).after hp2 hm2); clear hp2 hm2)
  have k20 := HQ2.out.c0
  have k21 := HQ2.out.c1
  have k22 := HQ2.out.f1
  clear k10 k11 k12
  go_quiet (fail)
  go_wp2_with fail
  go_quiet (fail)
  go_wp2_with (first | (go_at_call 70; refine (skip_none _ bp s x d _ (by exact ((HQ2.out.drewN _).setI _ _ (by have := HXX.out; omega)).ps) HAX.out hs (by intro c hc; simp at hc; subst hc; have h1 := HC.out.1; have h2 := HC.out.2; omega)).mono ?_; rintro e w' ⟨rfl, hp2, hm2⟩; have HQ3 := Lib.hid (((HQ2.out.drewN _).setI x _ (by have := HXX.out; omega)).after hp2 hm2); clear hp2 hm2) | (go_at_call 102; refine (parseInt_lit _ bp s x d cb vb _ HQ3.out.ps HAX.out hs HC.out (headP_cons (by decide)) HV.out).mono ?_; rintro e w' ⟨rfl, hp2, hm2⟩; have HQ4 := Lib.hid (HQ3.out.after hp2 hm2); clear hp2 hm2))
  rw [jumpN_ret]
  exact bodyPost_ret (v := .tuple #[.int .i64 3, .int .i64 vb, .nilIface]) (by simp [results, Tryz.results94, go_sem]) rfl (HQ4.out.post _)

set_option maxRecDepth 100000 in
set_option maxHeartbeats 4000000 in
theorem nth_p4p (w : World) (bp : Nat) (s : ByteArray) (i d : Nat) (cb : UInt8) (vb : Int) (r : List UInt8) (hp : PS w bp s i d) (ha : At s i (52 :: (110 :: (43 :: (cb :: (41 :: r)))))) (hs : s.size ≤ 140737488351232) (hc : figC cb) (hv : (cb.toNat : Int) - 48 = vb) :
    Calls Tryz.prog 94 #[.pointer (some ⟨bp, 0, none⟩)] w (PPost w bp s (i + 4) d (.tuple #[.int .i64 4, .int .i64 vb, .nilIface])) := by
  have h0 := hp.c0
  have h1 := hp.c1
  have f1 := hp.f1
  have hv1 : 0 ≤ vb ∧ vb ≤ 9 := by have := hc.1; have := hc.2; omega
  have hlt0 := ha.lt
  have hlt0i : (i : Int) < (s.size : Int) := by omega
  have hg0 := ha.get
  have hap := ha
  have hgp := hg0
  have e45 : ((s[i].toNat : Int) == 45) = false := by rw [hgp]; rfl
  have e43 : ((s[i].toNat : Int) == 43) = false := by rw [hgp]; rfl
  have d48 : ((s[i].toNat : Int) == 48) = false := by rw [hgp]; rfl
  have d49 : ((s[i].toNat : Int) == 49) = false := by rw [hgp]; rfl
  have d50 : ((s[i].toNat : Int) == 50) = false := by rw [hgp]; rfl
  have d51 : ((s[i].toNat : Int) == 51) = false := by rw [hgp]; rfl
  have d52 : ((s[i].toNat : Int) == 52) = true := by rw [hgp]; rfl
  obtain ⟨q, hqq⟩ : ∃ q, q = i + 1 := ⟨_, rfl⟩
  have haq : At s q (110 :: (43 :: (cb :: (41 :: r)))) := by rw [hqq]; exact hap.next
  have hltq := haq.lt
  have hltqi : (q : Int) < (s.size : Int) := by omega
  have hgq := haq.get
  obtain ⟨t, htt⟩ : ∃ t, t = q + 1 := ⟨_, rfl⟩
  have hat : At s t (43 :: (cb :: (41 :: r))) := by rw [htt]; exact haq.next
  have hltt := hat.lt
  have hltti : (t : Int) < (s.size : Int) := by omega
  have hgt := hat.get
  obtain ⟨x, hxx⟩ : ∃ x, x = t + 1 := ⟨_, rfl⟩
  have hax : At s x (cb :: (41 :: r)) := by rw [hxx]; exact hat.next
  have hltx := hax.lt
  have hltxi : (x : Int) < (s.size : Int) := by omega
  have n1 : ((s[q].toNat : Int) == 110) = true := by rw [hgq]; rfl
  have s1 : ((s[t].toNat : Int) == 43) = true := by rw [hgt]; rfl
  have hend : i + 4 = x + 1 := by omega
  rw [hend]
  have HAP := Lib.hid hap
  have HAQ := Lib.hid haq
  have HAT := Lib.hid hat
  have HAX := Lib.hid hax
  have HQQ := Lib.hid hqq
  have HTT := Lib.hid htt
  have HXX := Lib.hid hxx
  have HC := Lib.hid hc
  have HV := Lib.hid hv
  have HQ0 := Lib.hid (St.start hp)
  clear hp ha hap haq hat hax hg0 hgp hgq hgt hqq htt hxx hc hv hend
  go_enter Tryz.func94, Tryz.ntmps94
  go_wp2_with fail
  refine wp_scope_jumpN 4 ?_
  go_wp2_with fail
  go_quiet (fail)
  go_wp2_with fail
  go_quiet (fail)
  go_wp2_with fail
  go_step3
  refine jumpN_goto _ _ _ rfl ?_
  go_wp2_with fail
  go_quiet (fail)
  go_wp2_with fail
  go_quiet (fail)
  go_wp2_with (go_at_call 102; refine (parseInt_lit _ bp s i d 52 4 _ (by exact (HQ0.out.drewN _).ps) HAP.out hs ⟨by decide, by decide⟩ (headP_cons (by decide)) (by rfl)).mono ?_; rintro e w' ⟨rfl, hp2, hm2⟩; rw [← HQQ.out] at hp2; have HQ1 := Lib.hid ((HQ0.out.drewN _).after hp2 hm2); clear hp2 hm2)
  have k10 := HQ1.out.c0
  have k11 := HQ1.out.c1
  have k12 := HQ1.out.f1
  clear h0 h1 f1
  go_step3
  refine jumpN_goto _ _ _ rfl ?_
  go_wp2_with fail
  go_quiet (fail)
  go_wp2_with fail
  go_quiet (fail)
  go_wp2_with fail
  go_step3
  refine jumpN_goto _ _ _ rfl ?_
  go_wp2_with (go_at_call 70; refine (skip_none _ bp s t d _ (by exact ((HQ1.out.drewN _).setI _ _ (by have := HTT.out; omega)).ps) HAT.out hs (ns_cons (by decide))).mono ?_; rintro e w' ⟨rfl, hp2, hm2⟩; have HQ2 := Lib.hid (((HQ1.out.drewN _).setI t _ (by have := HTT.out; omega)).after hp2 hm2); clear hp2 hm2)
  have k20 := HQ2.out.c0
  have k21 := HQ2.out.c1
  have k22 := HQ2.out.f1
  clear k10 k11 k12
  go_quiet (fail)
  go_wp2_with fail
  go_quiet (fail)
  go_wp2_with (first | (go_at_call 70; refine (skip_none _ bp s x d _ (by exact ((HQ2.out.drewN _).setI _ _ (by have := HXX.out; omega)).ps) HAX.out hs (by intro c hc; simp at hc; subst hc; have h1 := HC.out.1; have h2 := HC.out.2; omega)).mono ?_; rintro e w' ⟨rfl, hp2, hm2⟩; have HQ3 := Lib.hid (((HQ2.out.drewN _).setI x _ (by have := HXX.out; omega)).after hp2 hm2); clear hp2 hm2) | (go_at_call 102; refine (parseInt_lit _ bp s x d cb vb _ HQ3.out.ps HAX.out hs HC.out (headP_cons (by decide)) HV.out).mono ?_; rintro e w' ⟨rfl, hp2, hm2⟩; have HQ4 := Lib.hid (HQ3.out.after hp2 hm2); clear hp2 hm2))
  rw [jumpN_ret]
  exact bodyPost_ret (v := .tuple #[.int .i64 4, .int .i64 vb, .nilIface]) (by simp [results, Tryz.results94, go_sem]) rfl (HQ4.out.post _)

set_option maxRecDepth 100000 in
set_option maxHeartbeats 4000000 in
theorem nth_p5p (w : World) (bp : Nat) (s : ByteArray) (i d : Nat) (cb : UInt8) (vb : Int) (r : List UInt8) (hp : PS w bp s i d) (ha : At s i (53 :: (110 :: (43 :: (cb :: (41 :: r)))))) (hs : s.size ≤ 140737488351232) (hc : figC cb) (hv : (cb.toNat : Int) - 48 = vb) :
    Calls Tryz.prog 94 #[.pointer (some ⟨bp, 0, none⟩)] w (PPost w bp s (i + 4) d (.tuple #[.int .i64 5, .int .i64 vb, .nilIface])) := by
  have h0 := hp.c0
  have h1 := hp.c1
  have f1 := hp.f1
  have hv1 : 0 ≤ vb ∧ vb ≤ 9 := by have := hc.1; have := hc.2; omega
  have hlt0 := ha.lt
  have hlt0i : (i : Int) < (s.size : Int) := by omega
  have hg0 := ha.get
  have hap := ha
  have hgp := hg0
  have e45 : ((s[i].toNat : Int) == 45) = false := by rw [hgp]; rfl
  have e43 : ((s[i].toNat : Int) == 43) = false := by rw [hgp]; rfl
  have d48 : ((s[i].toNat : Int) == 48) = false := by rw [hgp]; rfl
  have d49 : ((s[i].toNat : Int) == 49) = false := by rw [hgp]; rfl
  have d50 : ((s[i].toNat : Int) == 50) = false := by rw [hgp]; rfl
  have d51 : ((s[i].toNat : Int) == 51) = false := by rw [hgp]; rfl
  have d52 : ((s[i].toNat : Int) == 52) = false := by rw [hgp]; rfl
  have d53 : ((s[i].toNat : Int) == 53) = true := by rw [hgp]; rfl
  obtain ⟨q, hqq⟩ : ∃ q, q = i + 1 := ⟨_, rfl⟩
  have haq : At s q (110 :: (43 :: (cb :: (41 :: r)))) := by rw [hqq]; exact hap.next
  have hltq := haq.lt
  have hltqi : (q : Int) < (s.size : Int) := by omega
  have hgq := haq.get
  obtain ⟨t, htt⟩ : ∃ t, t = q + 1 := ⟨_, rfl⟩
  have hat : At s t (43 :: (cb :: (41 :: r))) := by rw [htt]; exact haq.next
  have hltt := hat.lt
  have hltti : (t : Int) < (s.size : Int) := by omega
  have hgt := hat.get
  obtain ⟨x, hxx⟩ : ∃ x, x = t + 1 := ⟨_, rfl⟩
  have hax : At s x (cb :: (41 :: r)) := by rw [hxx]; exact hat.next
  have hltx := hax.lt
  have hltxi : (x : Int) < (s.size : Int) := by omega
  have n1 : ((s[q].toNat : Int) == 110) = true := by rw [hgq]; rfl
  have s1 : ((s[t].toNat : Int) == 43) = true := by rw [hgt]; rfl
  have hend : i + 4 = x + 1 := by omega
  rw [hend]
  have HAP := Lib.hid hap
  have HAQ := Lib.hid haq
  have HAT := Lib.hid hat
  have HAX := Lib.hid hax
  have HQQ := Lib.hid hqq
  have HTT := Lib.hid htt
  have HXX := Lib.hid hxx
  have HC := Lib.hid hc
  have HV := Lib.hid hv
  have HQ0 := Lib.hid (St.start hp)
  clear hp ha hap haq hat hax hg0 hgp hgq hgt hqq htt hxx hc hv hend
  go_enter Tryz.func94, Tryz.ntmps94
  go_wp2_with fail
  refine wp_scope_jumpN 4 ?_
  go_wp2_with fail
  go_quiet (fail)
  go_wp2_with fail
  go_quiet (fail)
  go_wp2_with fail
  go_step3
  refine jumpN_goto _ _ _ rfl ?_
  go_wp2_with fail
  go_quiet (fail)
  go_wp2_with fail
  go_quiet (fail)
  go_wp2_with (go_at_call 102; refine (parseInt_lit _ bp s i d 53 5 _ (by exact (HQ0.out.drewN _).ps) HAP.out hs ⟨by decide, by decide⟩ (headP_cons (by decide)) (by rfl)).mono ?_; rintro e w' ⟨rfl, hp2, hm2⟩; rw [← HQQ.out] at hp2; have HQ1 := Lib.hid ((HQ0.out.drewN _).after hp2 hm2); clear hp2 hm2)
  have k10 := HQ1.out.c0
  have k11 := HQ1.out.c1
  have k12 := HQ1.out.f1
  clear h0 h1 f1
  go_step3
  refine jumpN_goto _ _ _ rfl ?_
  go_wp2_with fail
  go_quiet (fail)
  go_wp2_with fail
  go_quiet (fail)
  go_wp2_with fail
  go_step3
  refine jumpN_goto _ _ _ rfl ?_
  go_wp2_with (go_at_call 70; refine (skip_none _ bp s t d _ (by exact ((HQ1.out.drewN _).setI _ _ (by have := HTT.out; omega)).ps) HAT.out hs (ns_cons (by decide))).mono ?_; rintro e w' ⟨rfl, hp2, hm2⟩; have HQ2 := Lib.hid (((HQ1.out.drewN _).setI t _ (by have := HTT.out; omega)).after hp2 hm2); clear hp2 hm2)
  have k20 := HQ2.out.c0
  have k21 := HQ2.out.c1
  have k22 := HQ2.out.f1
  clear k10 k11 k12
  go_quiet (fail)
  go_wp2_with fail
  go_quiet (fail)
  go_wp2_with (first | (go_at_call 70; refine (skip_none _ bp s x d _ (by exact ((HQ2.out.drewN _).setI _ _ (by have := HXX.out; omega)).ps) HAX.out hs (by intro c hc; simp at hc; subst hc; have h1 := HC.out.1; have h2 := HC.out.2; omega)).mono ?_; rintro e w' ⟨rfl, hp2, hm2⟩; have HQ3 := Lib.hid (((HQ2.out.drewN _).setI x _ (by have := HXX.out; omega)).after hp2 hm2); clear hp2 hm2) | (go_at_call 102; refine (parseInt_lit _ bp s x d cb vb _ HQ3.out.ps HAX.out hs HC.out (headP_cons (by decide)) HV.out).mono ?_; rintro e w' ⟨rfl, hp2, hm2⟩; have HQ4 := Lib.hid (HQ3.out.after hp2 hm2); clear hp2 hm2))
  rw [jumpN_ret]
  exact bodyPost_ret (v := .tuple #[.int .i64 5, .int .i64 vb, .nilIface]) (by simp [results, Tryz.results94, go_sem]) rfl (HQ4.out.post _)

set_option maxRecDepth 100000 in
set_option maxHeartbeats 4000000 in
theorem nth_p6p (w : World) (bp : Nat) (s : ByteArray) (i d : Nat) (cb : UInt8) (vb : Int) (r : List UInt8) (hp : PS w bp s i d) (ha : At s i (54 :: (110 :: (43 :: (cb :: (41 :: r)))))) (hs : s.size ≤ 140737488351232) (hc : figC cb) (hv : (cb.toNat : Int) - 48 = vb) :
    Calls Tryz.prog 94 #[.pointer (some ⟨bp, 0, none⟩)] w (PPost w bp s (i + 4) d (.tuple #[.int .i64 6, .int .i64 vb, .nilIface])) := by
  have h0 := hp.c0
  have h1 := hp.c1
  have f1 := hp.f1
  have hv1 : 0 ≤ vb ∧ vb ≤ 9 := by have := hc.1; have := hc.2; omega
  have hlt0 := ha.lt
  have hlt0i : (i : Int) < (s.size : Int) := by omega
  have hg0 := ha.get
  have hap := ha
  have hgp := hg0
  have e45 : ((s[i].toNat : Int) == 45) = false := by rw [hgp]; rfl
  have e43 : ((s[i].toNat : Int) == 43) = false := by rw [hgp]; rfl
  have d48 : ((s[i].toNat : Int) == 48) = false := by rw [hgp]; rfl
  have d49 : ((s[i].toNat : Int) == 49) = false := by rw [hgp]; rfl
  have d50 : ((s[i].toNat : Int) == 50) = false := by rw [hgp]; rfl
  have d51 : ((s[i].toNat : Int) == 51) = false := by rw [hgp]; rfl
  have d52 : ((s[i].toNat : Int) == 52) = false := by rw [hgp]; rfl
  have d53 : ((s[i].toNat : Int) == 53) = false := by rw [hgp]; rfl
  have d54 : ((s[i].toNat : Int) == 54) = true := by rw [hgp]; rfl
  obtain ⟨q, hqq⟩ : ∃ q, q = i + 1 := ⟨_, rfl⟩
  have haq : At s q (110 :: (43 :: (cb :: (41 :: r)))) := by rw [hqq]; exact hap.next
  have hltq := haq.lt
  have hltqi : (q : Int) < (s.size : Int) := by omega
  have hgq := haq.get
  obtain ⟨t, htt⟩ : ∃ t, t = q + 1 := ⟨_, rfl⟩
  have hat : At s t (43 :: (cb :: (41 :: r))) := by rw [htt]; exact haq.next
  have hltt := hat.lt
  have hltti : (t : Int) < (s.size : Int) := by omega
  have hgt := hat.get
  obtain ⟨x, hxx⟩ : ∃ x, x = t + 1 := ⟨_, rfl⟩
  have hax : At s x (cb :: (41 :: r)) := by rw [hxx]; exact hat.next
  have hltx := hax.lt
  have hltxi : (x : Int) < (s.size : Int) := by omega
  have n1 : ((s[q].toNat : Int) == 110) = true := by rw [hgq]; rfl
  have s1 : ((s[t].toNat : Int) == 43) = true := by rw [hgt]; rfl
  have hend : i + 4 = x + 1 := by omega
  rw [hend]
  have HAP := Lib.hid hap
  have HAQ := Lib.hid haq
  have HAT := Lib.hid hat
  have HAX := Lib.hid hax
  have HQQ := Lib.hid hqq
  have HTT := Lib.hid htt
  have HXX := Lib.hid hxx
  have HC := Lib.hid hc
  have HV := Lib.hid hv
  have HQ0 := Lib.hid (St.start hp)
  clear hp ha hap haq hat hax hg0 hgp hgq hgt hqq htt hxx hc hv hend
  go_enter Tryz.func94, Tryz.ntmps94
  go_wp2_with fail
  refine wp_scope_jumpN 4 ?_
  go_wp2_with fail
  go_quiet (fail)
  go_wp2_with fail
  go_quiet (fail)
  go_wp2_with fail
  go_step3
  refine jumpN_goto _ _ _ rfl ?_
  go_wp2_with fail
  go_quiet (fail)
  go_wp2_with fail
  go_quiet (fail)
  go_wp2_with (go_at_call 102; refine (parseInt_lit _ bp s i d 54 6 _ (by exact (HQ0.out.drewN _).ps) HAP.out hs ⟨by decide, by decide⟩ (headP_cons (by decide)) (by rfl)).mono ?_; rintro e w' ⟨rfl, hp2, hm2⟩; rw [← HQQ.out] at hp2; have HQ1 := Lib.hid ((HQ0.out.drewN _).after hp2 hm2); clear hp2 hm2)
  have k10 := HQ1.out.c0
  have k11 := HQ1.out.c1
  have k12 := HQ1.out.f1
  clear h0 h1 f1
  go_step3
  refine jumpN_goto _ _ _ rfl ?_
  go_wp2_with fail
  go_quiet (fail)
  go_wp2_with fail
  go_quiet (fail)
  go_wp2_with fail
  go_step3
  refine jumpN_goto _ _ _ rfl ?_
  go_wp2_with (go_at_call 70; refine (skip_none _ bp s t d _ (by exact ((HQ1.out.drewN _).setI _ _ (by have := HTT.out; omega)).ps) HAT.out hs (ns_cons (by decide))).mono ?_; rintro e w' ⟨rfl, hp2, hm2⟩; have HQ2 := Lib.hid (((HQ1.out.drewN _).setI t _ (by have := HTT.out; omega)).after hp2 hm2); clear hp2 hm2)
  have k20 := HQ2.out.c0
  have k21 := HQ2.out.c1
  have k22 := HQ2.out.f1
  clear k10 k11 k12
  go_quiet (fail)
  go_wp2_with fail
  go_quiet (fail)
  go_wp2_with (first | (go_at_call 70; refine (skip_none _ bp s x d _ (by exact ((HQ2.out.drewN _).setI _ _ (by have := HXX.out; omega)).ps) HAX.out hs (by intro c hc; simp at hc; subst hc; have h1 := HC.out.1; have h2 := HC.out.2; omega)).mono ?_; rintro e w' ⟨rfl, hp2, hm2⟩; have HQ3 := Lib.hid (((HQ2.out.drewN _).setI x _ (by have := HXX.out; omega)).after hp2 hm2); clear hp2 hm2) | (go_at_call 102; refine (parseInt_lit _ bp s x d cb vb _ HQ3.out.ps HAX.out hs HC.out (headP_cons (by decide)) HV.out).mono ?_; rintro e w' ⟨rfl, hp2, hm2⟩; have HQ4 := Lib.hid (HQ3.out.after hp2 hm2); clear hp2 hm2))
  rw [jumpN_ret]
  exact bodyPost_ret (v := .tuple #[.int .i64 6, .int .i64 vb, .nilIface]) (by simp [results, Tryz.results94, go_sem]) rfl (HQ4.out.post _)

set_option maxRecDepth 100000 in
set_option maxHeartbeats 4000000 in
theorem nth_p7p (w : World) (bp : Nat) (s : ByteArray) (i d : Nat) (cb : UInt8) (vb : Int) (r : List UInt8) (hp : PS w bp s i d) (ha : At s i (55 :: (110 :: (43 :: (cb :: (41 :: r)))))) (hs : s.size ≤ 140737488351232) (hc : figC cb) (hv : (cb.toNat : Int) - 48 = vb) :
    Calls Tryz.prog 94 #[.pointer (some ⟨bp, 0, none⟩)] w (PPost w bp s (i + 4) d (.tuple #[.int .i64 7, .int .i64 vb, .nilIface])) := by
  have h0 := hp.c0
  have h1 := hp.c1
  have f1 := hp.f1
  have hv1 : 0 ≤ vb ∧ vb ≤ 9 := by have := hc.1; have := hc.2; omega
  have hlt0 := ha.lt
  have hlt0i : (i : Int) < (s.size : Int) := by omega
  have hg0 := ha.get
  have hap := ha
  have hgp := hg0
  have e45 : ((s[i].toNat : Int) == 45) = false := by rw [hgp]; rfl
  have e43 : ((s[i].toNat : Int) == 43) = false := by rw [hgp]; rfl
  have d48 : ((s[i].toNat : Int) == 48) = false := by rw [hgp]; rfl
  have d49 : ((s[i].toNat : Int) == 49) = false := by rw [hgp]; rfl
  have d50 : ((s[i].toNat : Int) == 50) = false := by rw [hgp]; rfl
  have d51 : ((s[i].toNat : Int) == 51) = false := by rw [hgp]; rfl
  have d52 : ((s[i].toNat : Int) == 52) = false := by rw [hgp]; rfl
  have d53 : ((s[i].toNat : Int) == 53) = false := by rw [hgp]; rfl
  have d54 : ((s[i].toNat : Int) == 54) = false := by rw [hgp]; rfl
  have d55 : ((s[i].toNat : Int) == 55) = true := by rw [hgp]; rfl
  obtain ⟨q, hqq⟩ : ∃ q, q = i + 1 := ⟨_, rfl⟩
  have haq : At s q (110 :: (43 :: (cb :: (41 :: r)))) := by rw [hqq]; exact hap.next
  have hltq := haq.lt
  have hltqi : (q : Int) < (s.size : Int) := by omega
  have hgq := haq.get
  obtain ⟨t, htt⟩ : ∃ t, t = q + 1 := ⟨_, rfl⟩
  have hat : At s t (43 :: (cb :: (41 :: r))) := by rw [htt]; exact haq.next
  have hltt := hat.lt
  have hltti : (t : Int) < (s.size : Int) := by omega
  have hgt := hat.get
  obtain ⟨x, hxx⟩ : ∃ x, x = t + 1 := ⟨_, rfl⟩
  have hax : At s x (cb :: (41 :: r)) := by rw [hxx]; exact hat.next
  have hltx := hax.lt
  have hltxi : (x : Int) < (s.size : Int) := by omega
  have n1 : ((s[q].toNat : Int) == 110) = true := by rw [hgq]; rfl
  have s1 : ((s[t].toNat : Int) == 43) = true := by rw [hgt]; rfl
  have hend : i + 4 = x + 1 := by omega
  rw [hend]
  have HAP := Lib.hid hap
  have HAQ := Lib.hid haq
  have HAT := Lib.hid hat
  have HAX := Lib.hid hax
  have HQQ := Lib.hid hqq
  have HTT := Lib.hid htt
  have HXX := Lib.hid hxx
  have HC := Lib.hid hc
  have HV := Lib.hid hv
  have HQ0 := Lib.hid (St.start hp)
  clear hp ha hap haq hat hax hg0 hgp hgq hgt hqq htt hxx hc hv hend
  go_enter Tryz.func94, Tryz.ntmps94
  go_wp2_with fail
  refine wp_scope_jumpN 4 ?_
  go_wp2_with fail
  go_quiet (fail)
  go_wp2_with fail
  go_quiet (fail)
  go_wp2_with fail
  go_step3
  refine jumpN_goto _ _ _ rfl ?_
  go_wp2_with fail
  go_quiet (fail)
  go_wp2_with fail
  go_quiet (fail)
  go_wp2_with (go_at_call 102; refine (parseInt_lit _ bp s i d 55 7 _ (by exact (HQ0.out.drewN _).ps) HAP.out hs ⟨by decide, by decide⟩ (headP_cons (by decide)) (by rfl)).mono ?_; rintro e w' ⟨rfl, hp2, hm2⟩; rw [← HQQ.out] at hp2; have HQ1 := Lib.hid ((HQ0.out.drewN _).after hp2 hm2); clear hp2 hm2)
  have k10 := HQ1.out.c0
  have k11 := HQ1.out.c1
  have k12 := HQ1.out.f1
  clear h0 h1 f1
  go_step3
  refine jumpN_goto _ _ _ rfl ?_
  go_wp2_with fail
  go_quiet (fail)
  go_wp2_with fail
  go_quiet (fail)
  go_wp2_with fail
  go_step3
  refine jumpN_goto _ _ _ rfl ?_
  go_wp2_with (go_at_call 70; refine (skip_none _ bp s t d _ (by exact ((HQ1.out.drewN _).setI _ _ (by have := HTT.out; omega)).ps) HAT.out hs (ns_cons (by decide))).mono ?_; rintro e w' ⟨rfl, hp2, hm2⟩; have HQ2 := Lib.hid (((HQ1.out.drewN _).setI t _ (by have := HTT.out; omega)).after hp2 hm2); clear hp2 hm2)
  have k20 := HQ2.out.c0
  have k21 := HQ2.out.c1
  have k22 := HQ2.out.f1
  clear k10 k11 k12
  go_quiet (fail)
  go_wp2_with fail
  go_quiet (fail)
  go_wp2_with (first | (go_at_call 70; refine (skip_none _ bp s x d _ (by exact ((HQ2.out.drewN _).setI _ _ (by have := HXX.out; omega)).ps) HAX.out hs (by intro c hc; simp at hc; subst hc; have h1 := HC.out.1; have h2 := HC.out.2; omega)).mono ?_; rintro e w' ⟨rfl, hp2, hm2⟩; have HQ3 := Lib.hid (((HQ2.out.drewN _).setI x _ (by have := HXX.out; omega)).after hp2 hm2); clear hp2 hm2) | (go_at_call 102; refine (parseInt_lit _ bp s x d cb vb _ HQ3.out.ps HAX.out hs HC.out (headP_cons (by decide)) HV.out).mono ?_; rintro e w' ⟨rfl, hp2, hm2⟩; have HQ4 := Lib.hid (HQ3.out.after hp2 hm2); clear hp2 hm2))
  rw [jumpN_ret]
  exact bodyPost_ret (v := .tuple #[.int .i64 7, .int .i64 vb, .nilIface]) (by simp [results, Tryz.results94, go_sem]) rfl (HQ4.out.post _)

set_option maxRecDepth 100000 in
set_option maxHeartbeats 4000000 in
theorem nth_p8p (w : World) (bp : Nat) (s : ByteArray) (i d : Nat) (cb : UInt8) (vb : Int) (r : List UInt8) (hp : PS w bp s i d) (ha : At s i (56 :: (110 :: (43 :: (cb :: (41 :: r)))))) (hs : s.size ≤ 140737488351232) (hc : figC cb) (hv : (cb.toNat : Int) - 48 = vb) :
    Calls Tryz.prog 94 #[.pointer (some ⟨bp, 0, none⟩)] w (PPost w bp s (i + 4) d (.tuple #[.int .i64 8, .int .i64 vb, .nilIface])) := by
  have h0 := hp.c0
  have h1 := hp.c1
  have f1 := hp.f1
  have hv1 : 0 ≤ vb ∧ vb ≤ 9 := by have := hc.1; have := hc.2; omega
  have hlt0 := ha.lt
  have hlt0i : (i : Int) < (s.size : Int) := by omega
  have hg0 := ha.get
  have hap := ha
  have hgp := hg0
  have e45 : ((s[i].toNat : Int) == 45) = false := by rw [hgp]; rfl
  have e43 : ((s[i].toNat : Int) == 43) = false := by rw [hgp]; rfl
  have d48 : ((s[i].toNat : Int) == 48) = false := by rw [hgp]; rfl
  have d49 : ((s[i].toNat : Int) == 49) = false := by rw [hgp]; rfl
  have d50 : ((s[i].toNat : Int) == 50) = false := by rw [hgp]; rfl
  have d51 : ((s[i].toNat : Int) == 51) = false := by rw [hgp]; rfl
  have d52 : ((s[i].toNat : Int) == 52) = false := by rw [hgp]; rfl
  have d53 : ((s[i].toNat : Int) == 53) = false := by rw [hgp]; rfl
  have d54 : ((s[i].toNat : Int) == 54) = false := by rw [hgp]; rfl
  have d55 : ((s[i].toNat : Int) == 55) = false := by rw [hgp]; rfl
  have d56 : ((s[i].toNat : Int) == 56) = true := by rw [hgp]; rfl
  obtain ⟨q, hqq⟩ : ∃ q, q = i + 1 := ⟨_, rfl⟩
  have haq : At s q (110 :: (43 :: (cb :: (41 :: r)))) := by rw [hqq]; exact hap.next
  have hltq := haq.lt
  have hltqi : (q : Int) < (s.size : Int) := by omega
  have hgq := haq.get
  obtain ⟨t, htt⟩ : ∃ t, t = q + 1 := ⟨_, rfl⟩
  have hat : At s t (43 :: (cb :: (41 :: r))) := by rw [htt]; exact haq.next
  have hltt := hat.lt
  have hltti : (t : Int) < (s.size : Int) := by omega
  have hgt := hat.get
  obtain ⟨x, hxx⟩ : ∃ x, x = t + 1 := ⟨_, rfl⟩
  have hax : At s x (cb :: (41 :: r)) := by rw [hxx]; exact hat.next
  have hltx := hax.lt
  have hltxi : (x : Int) < (s.size : Int) := by omega
  have n1 : ((s[q].toNat : Int) == 110) = true := by rw [hgq]; rfl
  have s1 : ((s[t].toNat : Int) == 43) = true := by rw [hgt]; rfl
  have hend : i + 4 = x + 1 := by omega
  rw [hend]
  have HAP := Lib.hid hap
  have HAQ := Lib.hid haq
  have HAT := Lib.hid hat
  have HAX := Lib.hid hax
  have HQQ := Lib.hid hqq
  have HTT := Lib.hid htt
  have HXX := Lib.hid hxx
  have HC := Lib.hid hc
  have HV := Lib.hid hv
  have HQ0 := Lib.hid (St.start hp)
  clear hp ha hap haq hat hax hg0 hgp hgq hgt hqq htt hxx hc hv hend
  go_enter Tryz.func94, Tryz.ntmps94
  go_wp2_with fail
  refine wp_scope_jumpN 4 ?_
  go_wp2_with fail
  go_quiet (fail)
  go_wp2_with fail
  go_quiet (fail)
  go_wp2_with fail
  go_step3
  refine jumpN_goto _ _ _ rfl ?_
  go_wp2_with fail
  go_quiet (fail)
  go_wp2_with fail
  go_quiet (fail)
  go_wp2_with (go_at_call 102; refine (parseInt_lit _ bp s i d 56 8 _ (by exact (HQ0.out.drewN _).ps) HAP.out hs ⟨by decide, by decide⟩ (headP_cons (by decide)) (by rfl)).mono ?_; rintro e w' ⟨rfl, hp2, hm2⟩; rw [← HQQ.out] at hp2; have HQ1 := Lib.hid ((HQ0.out.drewN _).after hp2 hm2); clear hp2 hm2)
  have k10 := HQ1.out.c0
  have k11 := HQ1.out.c1
  have k12 := HQ1.out.f1
  clear h0 h1 f1
  go_step3
  refine jumpN_goto _ _ _ rfl ?_
  go_wp2_with fail
  go_quiet (fail)
  go_wp2_with fail
  go_quiet (fail)
  go_wp2_with fail
  go_step3
  refine jumpN_goto _ _ _ rfl ?_
  go_wp2_with (go_at_call 70; refine (skip_none _ bp s t d _ (by exact ((HQ1.out.drewN _).setI _ _ (by have := HTT.out; omega)).ps) HAT.out hs (ns_cons (by decide))).mono ?_; rintro e w' ⟨rfl, hp2, hm2⟩; have HQ2 := Lib.hid (((HQ1.out.drewN _).setI t _ (by have := HTT.out; omega)).after hp2 hm2); clear hp2 hm2)
  have k20 := HQ2.out.c0
  have k21 := HQ2.out.c1
  have k22 := HQ2.out.f1
  clear k10 k11 k12
  go_quiet (fail)
  go_wp2_with fail
  go_quiet (fail)
  go_wp2_with (first | (go_at_call 70; refine (skip_none _ bp s x d _ (by exact ((HQ2.out.drewN _).setI _ _ (by have := HXX.out; omega)).ps) HAX.out hs (by intro c hc; simp at hc; subst hc; have h1 := HC.out.1; have h2 := HC.out.2; omega)).mono ?_; rintro e w' ⟨rfl, hp2, hm2⟩; have HQ3 := Lib.hid (((HQ2.out.drewN _).setI x _ (by have := HXX.out; omega)).after hp2 hm2); clear hp2 hm2) | (go_at_call 102; refine (parseInt_lit _ bp s x d cb vb _ HQ3.out.ps HAX.out hs HC.out (headP_cons (by decide)) HV.out).mono ?_; rintro e w' ⟨rfl, hp2, hm2⟩; have HQ4 := Lib.hid (HQ3.out.after hp2 hm2); clear hp2 hm2))
  rw [jumpN_ret]
  exact bodyPost_ret (v := .tuple #[.int .i64 8, .int .i64 vb, .nilIface]) (by simp [results, Tryz.results94, go_sem]) rfl (HQ4.out.post _)

set_option maxRecDepth 100000 in
set_option maxHeartbeats 4000000 in
theorem nth_p9p (w : World) (bp : Nat) (s : ByteArray) (i d : Nat) (cb : UInt8) (vb : Int) (r : List UInt8) (hp : PS w bp s i d) (ha : At s i (57 :: (110 :: (43 :: (cb :: (41 :: r)))))) (hs : s.size ≤ 140737488351232) (hc : figC cb) (hv : (cb.toNat : Int) - 48 = vb) :
    Calls Tryz.prog 94 #[.pointer (some ⟨bp, 0, none⟩)] w (PPost w bp s (i + 4) d (.tuple #[.int .i64 9, .int .i64 vb, .nilIface])) := by
  have h0 := hp.c0
  have h1 := hp.c1
  have f1 := hp.f1
  have hv1 : 0 ≤ vb ∧ vb ≤ 9 := by have := hc.1; have := hc.2; omega
  have hlt0 := ha.lt
  have hlt0i : (i : Int) < (s.size : Int) := by omega
  have hg0 := ha.get
  have hap := ha
  have hgp := hg0
  have e45 : ((s[i].toNat : Int) == 45) = false := by rw [hgp]; rfl
  have e43 : ((s[i].toNat : Int) == 43) = false := by rw [hgp]; rfl
  have d48 : ((s[i].toNat : Int) == 48) = false := by rw [hgp]; rfl
  have d49 : ((s[i].toNat : Int) == 49) = false := by rw [hgp]; rfl
  have d50 : ((s[i].toNat : Int) == 50) = false := by rw [hgp]; rfl
  have d51 : ((s[i].toNat : Int) == 51) = false := by rw [hgp]; rfl
  have d52 : ((s[i].toNat : Int) == 52) = false := by rw [hgp]; rfl
  have d53 : ((s[i].toNat : Int) == 53) = false := by rw [hgp]; rfl
  have d54 : ((s[i].toNat : Int) == 54) = false := by rw [hgp]; rfl
  have d55 : ((s[i].toNat : Int) == 55) = false := by rw [hgp]; rfl
  have d56 : ((s[i].toNat : Int) == 56) = false := by rw [hgp]; rfl
  have d57 : ((s[i].toNat : Int) == 57) = true := by rw [hgp]; rfl
  obtain ⟨q, hqq⟩ : ∃ q, q = i + 1 := ⟨_, rfl⟩
  have haq : At s q (110 :: (43 :: (cb :: (41 :: r)))) := by rw [hqq]; exact hap.next
  have hltq := haq.lt
  have hltqi : (q : Int) < (s.size : Int) := by omega
  have hgq := haq.get
  obtain ⟨t, htt⟩ : ∃ t, t = q + 1 := ⟨_, rfl⟩
  have hat : At s t (43 :: (cb :: (41 :: r))) := by rw [htt]; exact haq.next
  have hltt := hat.lt
  have hltti : (t : Int) < (s.size : Int) := by omega
  have hgt := hat.get
  obtain ⟨x, hxx⟩ : ∃ x, x = t + 1 := ⟨_, rfl⟩
  have hax : At s x (cb :: (41 :: r)) := by rw [hxx]; exact hat.next
  have hltx := hax.lt
  have hltxi : (x : Int) < (s.size : Int) := by omega
  have n1 : ((s[q].toNat : Int) == 110) = true := by rw [hgq]; rfl
  have s1 : ((s[t].toNat : Int) == 43) = true := by rw [hgt]; rfl
  have hend : i + 4 = x + 1 := by omega
  rw [hend]
  have HAP := Lib.hid hap
  have HAQ := Lib.hid haq
  have HAT := Lib.hid hat
  have HAX := Lib.hid hax
  have HQQ := Lib.hid hqq
  have HTT := Lib.hid htt
  have HXX := Lib.hid hxx
  have HC := Lib.hid hc
  have HV := Lib.hid hv
  have HQ0 := Lib.hid (St.start hp)
  clear hp ha hap haq hat hax hg0 hgp hgq hgt hqq htt hxx hc hv hend
  go_enter Tryz.func94, Tryz.ntmps94
  go_wp2_with fail
  refine wp_scope_jumpN 4 ?_
  go_wp2_with fail
  go_quiet (fail)
  go_wp2_with fail
  go_quiet (fail)
  go_wp2_with fail
  go_step3
  refine jumpN_goto _ _ _ rfl ?_
  go_wp2_with fail
  go_quiet (fail)
  go_wp2_with fail
  go_quiet (fail)
  go_wp2_with (go_at_call 102; refine (parseInt_lit _ bp s i d 57 9 _ (by exact (HQ0.out.drewN _).ps) HAP.out hs ⟨by decide, by decide⟩ (headP_cons (by decide)) (by rfl)).mono ?_; rintro e w' ⟨rfl, hp2, hm2⟩; rw [← HQQ.out] at hp2; have HQ1 := Lib.hid ((HQ0.out.drewN _).after hp2 hm2); clear hp2 hm2)
  have k10 := HQ1.out.c0
  have k11 := HQ1.out.c1
  have k12 := HQ1.out.f1
  clear h0 h1 f1
  go_step3
  refine jumpN_goto _ _ _ rfl ?_
  go_wp2_with fail
  go_quiet (fail)
  go_wp2_with fail
  go_quiet (fail)
  go_wp2_with fail
  go_step3
  refine jumpN_goto _ _ _ rfl ?_
  go_wp2_with (go_at_call 70; refine (skip_none _ bp s t d _ (by exact ((HQ1.out.drewN _).setI _ _ (by have := HTT.out; omega)).ps) HAT.out hs (ns_cons (by decide))).mono ?_; rintro e w' ⟨rfl, hp2, hm2⟩; have HQ2 := Lib.hid (((HQ1.out.drewN _).setI t _ (by have := HTT.out; omega)).after hp2 hm2); clear hp2 hm2)
  have k20 := HQ2.out.c0
  have k21 := HQ2.out.c1
  have k22 := HQ2.out.f1
  clear k10 k11 k12
  go_quiet (fail)
  go_wp2_with fail
  go_quiet (fail)
  go_wp2_with (first | (go_at_call 70; refine (skip_none _ bp s x d _ (by exact ((HQ2.out.drewN _).setI _ _ (by have := HXX.out; omega)).ps) HAX.out hs (by intro c hc; simp at hc; subst hc; have h1 := HC.out.1; have h2 := HC.out.2; omega)).mono ?_; rintro e w' ⟨rfl, hp2, hm2⟩; have HQ3 := Lib.hid (((HQ2.out.drewN _).setI x _ (by have := HXX.out; omega)).after hp2 hm2); clear hp2 hm2) | (go_at_call 102; refine (parseInt_lit _ bp s x d cb vb _ HQ3.out.ps HAX.out hs HC.out (headP_cons (by decide)) HV.out).mono ?_; rintro e w' ⟨rfl, hp2, hm2⟩; have HQ4 := Lib.hid (HQ3.out.after hp2 hm2); clear hp2 hm2))
  rw [jumpN_ret]
  exact bodyPost_ret (v := .tuple #[.int .i64 9, .int .i64 vb, .nilIface]) (by simp [results, Tryz.results94, go_sem]) rfl (HQ4.out.post _)

end Go.Proofs.YteaapgijeehhfaaGreatDoor
