/- The parser reads a text in quotes, and a number of one figure. -/
/- The parser's state behind a call, in one word; the selector of an attribute alone. -/
import Derived.Test.YteaapgijeehhfaaGreatDoorZ03
import Derived.Test.YteaapgijeehhfaaGreatDoorZ00
namespace Go.Proofs.YteaapgijeehhfaaGreatDoor
open Go.RowKit

theorem vch_class {c : UInt8} (h : vch c = true) : (c.toNat : Int) ≠ 34 ∧ (c.toNat : Int) ≠ 92 ∧ (c.toNat : Int) ≠ 13 ∧ (c.toNat : Int) ≠ 10 ∧ (c.toNat : Int) ≠ 12 := by
  simp only [vch, decide_eq_true_eq] at h; omega

set_option maxRecDepth 100000 in
set_option maxHeartbeats 4000000 in
theorem parseString_any (w : World) (bp : Nat) (s : ByteArray) (i d : Nat) (v r : List UInt8) (hp : PS w bp s i d) (ha : At s i (34 :: (v ++ (34 :: r)))) (hs : s.size ≤ 140737488351232)
    (hv : v.all vch = true) (h0v : v ≠ []) :
    Calls Tryz.prog 90 #[.pointer (some ⟨bp, 0, none⟩)] w (PPost w bp s (i + 1 + v.length + 1) d (.tuple #[.string (bs v), .nilIface])) := by
  have h0 := hp.c0
  have h1 := hp.c1
  have f1 := hp.f1
  have HP := Lib.hid hp
  have HA := Lib.hid ha.next
  have HV := Lib.hid hv
  have hvl : 0 < v.length := by cases v <;> simp_all
  have hle : i + 1 + v.length + 1 ≤ s.size := by have := ha.len; simp at this; omega
  have hlt0 := ha.lt
  have hg0 := ha.get
  have hq : (s[i].toNat : Int) = 34 := by rw [hg0]; rfl
  have hsl := slice_at ha.next
  rw [Int.natCast_add, Int.natCast_one] at hsl
  have hap := nil_append_bs v
  have hbn : (bs v).size ≤ 9223372036854775807 := by rw [bs_size]; omega
  clear hp ha hv h0v hg0
  obtain ⟨hltv, hgv⟩ := HA.out.at 0 hvl
  have hc0 := vch_class (List.all_eq_true.1 HV.out _ (List.getElem_mem hvl))
  rw [← hgv] at hc0
  simp only [Nat.add_zero] at hltv hc0
  clear hgv
  obtain ⟨n1, n2, n3, n4, n5⟩ := hc0
  have e1 : ((s[i + 1].toNat : Int) == (s[i].toNat : Int)) = false := by rw [hq]; simp; omega
  have e2 : ((s[i + 1].toNat : Int) == 92) = false := by simp; omega
  have e3 : ((s[i + 1].toNat : Int) == 13) = false := by simp; omega
  have e4 : ((s[i + 1].toNat : Int) == 10) = false := by simp; omega
  have e5 : ((s[i + 1].toNat : Int) == 12) = false := by simp; omega
  have hltz : i + 1 + v.length < s.size := by omega
  have hgz : s[i + 1 + v.length] = 34 := HA.out.skip.get
  have hqz : (s[i + 1 + v.length].toNat : Int) = 34 := by rw [hgz]; rfl
  have z1 : ((s[i + 1 + v.length].toNat : Int) == (s[i].toNat : Int)) = true := by rw [hq, hqz]; rfl
  have z2 : ((s[i + 1 + v.length].toNat : Int) == 92) = false := by rw [hqz]; rfl
  have HQ := Lib.hid hq
  clear hgz hqz n1 n2 n3 n4 n5 hq
  go_enter Tryz.func90, Tryz.ntmps90
  go_wp2_with fail
  go_step3
  go_wp2_with fail
  go_step3
  go_wp2_with fail
  refine wp_loop_rounds 2 ?_
  rw [rounds_succ]
  go_wp2_with fail
  go_loop [4] (fun t => ∃ k : Nat, k ≤ v.length ∧ t = .int .i64 ((i : Int) + 1 + k)) (fun t => v.length - ((intOf t).toNat - i - 1))
  case atStart => exact ⟨0, Nat.zero_le _, by simp⟩
  case round =>
    obtain ⟨k, hk, rfl⟩ := hrel
    by_cases hlt : k < v.length
    · obtain ⟨hlk, hgk⟩ := HA.out.at k hlt
      have hck := vch_class (List.all_eq_true.1 HV.out _ (List.getElem_mem hlt))
      rw [← hgk] at hck
      clear hgk
      obtain ⟨n1, n2, n3, n4, n5⟩ := hck
      have d1 : ((s[i + 1 + k].toNat : Int) == (s[i].toNat : Int)) = false := by rw [HQ.out]; simp; omega
      have d2 : ((s[i + 1 + k].toNat : Int) == 92) = false := by simp; omega
      have d3 : ((s[i + 1 + k].toNat : Int) == 13) = false := by simp; omega
      have d4 : ((s[i + 1 + k].toNat : Int) == 10) = false := by simp; omega
      have d5 : ((s[i + 1 + k].toNat : Int) == 12) = false := by simp; omega
      clear n1 n2 n3 n4 n5
      go_wp2_with fail
      go_round
      case rel => exact ⟨k + 1, by omega, by go_num⟩
      case measure => simp [intOf]; omega
    · obtain rfl : k = v.length := by omega
      go_wp2_with fail
      rw [rounds_succ]
      go_wp2_with fail
      rw [Exit.noGoto_ret]
      go_ret2
      exact ⟨rfl, HP.out.setI _ _ (by omega), (Mv.refl _ _).setCell _ _⟩

/-- One figure. -/
def figC (c : UInt8) : Prop := 48 ≤ c.toNat ∧ c.toNat ≤ 57

theorem atoi_fig (c : UInt8) (h : figC c) : Lib.atoi (bs [c]).data.toList = some ((c.toNat : Int) - 48) := by
  have e : (bs [c]).data.toList = [c] := rfl
  rw [e]
  obtain ⟨h1, h2⟩ := h
  have e1 : (c == 45) = false := by
    apply Bool.eq_false_iff.2; intro h; have := congrArg UInt8.toNat (eq_of_beq h); simp at this; omega
  have e2 : (c == 43) = false := by
    apply Bool.eq_false_iff.2; intro h; have := congrArg UInt8.toNat (eq_of_beq h); simp at this; omega
  simp only [Lib.atoi, e1, e2, Lib.decNat, Lib.decFrom, Lib.digitVal, h1, h2, and_self, if_true]
  simp
  omega

theorem bytes_below (w : World) (e : TypeId) (s : ByteArray) : Below w.heap.size w (Lib.bytesWorld w e s) :=
  ⟨rfl, rfl, rfl, by rw [Lib.bytesWorld_size]; omega, fun k hk => Lib.bytesWorld_at_old w e s k hk⟩

set_option maxRecDepth 100000 in
set_option maxHeartbeats 4000000 in
theorem parseInt_any (w : World) (bp : Nat) (s : ByteArray) (i d : Nat) (c : UInt8) (r : List UInt8) (hp : PS w bp s i d) (ha : At s i (c :: r)) (hs : s.size ≤ 140737488351232)
    (hc : figC c) (hr : headP (fun c => c.toNat < 48 ∨ 57 < c.toNat) r) :
    Calls Tryz.prog 102 #[.pointer (some ⟨bp, 0, none⟩)] w (PPost w bp s (i + 1) d (.tuple #[.int .i64 ((c.toNat : Int) - 48), .nilIface])) := by
  have h0 := hp.c0
  have h1 := hp.c1
  have f1 := hp.f1
  have HP := Lib.hid hp
  have hlt0 := ha.lt
  have hlt1 : (i : Int) < (s.size : Int) := by omega
  have hg0 := ha.get
  have e1 : (48 ≤ (s[i].toNat : Int)) := by rw [hg0]; have := hc.1; omega
  have e2 : decide ((s[i].toNat : Int) ≤ 57) = true := by rw [hg0]; have := hc.2; simp; omega
  have hsl := slice_at (l := [c]) (r := r) ha
  simp only [List.length_cons, List.length_nil, Nat.zero_add, Int.natCast_one] at hsl
  have HAT := Lib.hid (atoi_fig c hc)
  have HEND := Lib.hid (At.end (l := [c]) (r := r) ha)
  have HR := Lib.hid hr
  clear hp ha hc hr hg0
  rcases HEND.out with ⟨he, hre⟩ | ⟨hle2, hhd⟩
  · simp only [List.length_cons, List.length_nil, Nat.zero_add] at he
    have hnl : ¬ ((i : Int) + 1 < (s.size : Int)) := by omega
    clear he hre
    go_enter Tryz.func102, Tryz.ntmps102
    go_wp2_with fail
    refine wp_loop_rounds 2 ?_
    rw [rounds_succ]
    go_wp2_with fail
    rw [rounds_succ]
    go_wp2_with (go_at_call 112; refine (Tryz.strconv_Atoi (bs [c]) _ (by simp [bs_size]) HAT.out _).mono ?_; rintro e w' ⟨rfl, t, rfl⟩)
    go_ret2
    exact ⟨rfl, (HP.out.setI _ _ (by omega)).below (bytes_below _ _ _), ((Mv.refl _ _).setCell _ _).trans (Mv.of_below (bytes_below _ _ _))⟩
  · have hh := HR.out _ hhd
    simp only [List.length_cons, List.length_nil, Nat.zero_add] at hle2 hhd hh
    have hl2 : (i : Int) + 1 < (s.size : Int) := by omega
    clear hhd
    by_cases h48 : 48 ≤ (s[i + 1].toNat : Int)
    · have h57 : decide ((s[i + 1].toNat : Int) ≤ 57) = false := by simp; omega
      clear hh
      go_enter Tryz.func102, Tryz.ntmps102
      go_wp2_with fail
      refine wp_loop_rounds 2 ?_
      rw [rounds_succ]
      go_wp2_with fail
      rw [rounds_succ]
      go_wp2_with (go_at_call 112; refine (Tryz.strconv_Atoi (bs [c]) _ (by simp [bs_size]) HAT.out _).mono ?_; rintro e w' ⟨rfl, t, rfl⟩)
      go_ret2
      exact ⟨rfl, (HP.out.setI _ _ (by omega)).below (bytes_below _ _ _), ((Mv.refl _ _).setCell _ _).trans (Mv.of_below (bytes_below _ _ _))⟩
    · have h48' : decide (48 ≤ (s[i + 1].toNat : Int)) = false := by simp; omega
      clear hh h48
      go_enter Tryz.func102, Tryz.ntmps102
      go_wp2_with fail
      refine wp_loop_rounds 2 ?_
      rw [rounds_succ]
      go_wp2_with fail
      rw [rounds_succ]
      go_wp2_with (go_at_call 112; refine (Tryz.strconv_Atoi (bs [c]) _ (by simp [bs_size]) HAT.out _).mono ?_; rintro e w' ⟨rfl, t, rfl⟩)
      go_ret2
      exact ⟨rfl, (HP.out.setI _ _ (by omega)).below (bytes_below _ _ _), ((Mv.refl _ _).setCell _ _).trans (Mv.of_below (bytes_below _ _ _))⟩

end Go.Proofs.YteaapgijeehhfaaGreatDoor

namespace Go.Proofs.YteaapgijeehhfaaGreatDoor
open Go.RowKit

/-- The parser has come from w0 to w: it stands at i; all else that was there stands as it was. -/
structure St (bp : Nat) (s : ByteArray) (d : Nat) (w0 w : World) (i : Nat) : Prop where
  ps : PS w bp s i d
  mv : Mv bp w0 w

section
variable {bp d : Nat} {s : ByteArray} {w0 w : World} {i : Nat}
theorem St.start (h : PS w bp s i d) : St bp s d w w i := ⟨h, Mv.refl _ _⟩
theorem St.drewN (h : St bp s d w0 w i) (n : Nat) : St bp s d w0 (w.drewN n) i := ⟨h.ps, h.mv.drewN n⟩
theorem St.setI (h : St bp s d w0 w i) (j : Nat) (v : Int) (hv : v = j) : St bp s d w0 (w.setCell ⟨bp, 1, none⟩ (.int .i64 v)) j := ⟨h.ps.setI j v hv, h.mv.setCell _ _⟩
theorem St.after {w' : World} {j : Nat} (h : St bp s d w0 w i) (hp : PS w' bp s j d) (hm : Mv bp w w') : St bp s d w0 w' j := ⟨hp, h.mv.trans hm⟩
theorem St.low {o : Obj} (h : St bp s d (w0.alloc o) w i) : St bp s d w0 w i := ⟨h.ps, ((Mv.refl bp w0).alloc o).trans h.mv⟩
theorem St.setNew (h : St bp s d w0 w i) {N : Nat} (hN : w0.heap.size ≤ N) (hbp : bp < w0.heap.size) (o : Nat) (u : Value) : St bp s d w0 (w.setCell ⟨N, o, none⟩ u) i := ⟨h.ps.setOther (by omega) u, h.mv.setNew hN o u⟩
theorem St.post (h : St bp s d w0 w i) (v : Value) : PPost w0 bp s i d v (.returned v) w := ⟨rfl, h.ps, h.mv⟩
theorem St.c0 (h : St bp s d w0 w i) : w.cell? ⟨bp, 0, none⟩ = some (.string s) := h.ps.c0
theorem St.c1 (h : St bp s d w0 w i) : w.cell? ⟨bp, 1, none⟩ = some (.int .i64 i) := h.ps.c1
theorem St.f1 (h : St bp s d w0 w i) : w.frozen? ⟨bp, 1, none⟩ = false := h.ps.f1
theorem St.heap (h : St bp s d w0 w i) {k : Nat} {ob : Obj} (hk : w0.heap[k]? = some ob) (hne : k ≠ bp) : w.heap[k]? = some ob := h.mv.heap hk hne
end

theorem ns_cons {c : UInt8} {r : List UInt8} (h : c.toNat ≠ 32 ∧ c.toNat ≠ 9 ∧ c.toNat ≠ 10 ∧ c.toNat ≠ 12 ∧ c.toNat ≠ 13 ∧ c.toNat ≠ 47) : ∀ x, (c :: r).head? = some x → x.toNat ≠ 32 ∧ x.toNat ≠ 9 ∧ x.toNat ≠ 10 ∧ x.toNat ≠ 12 ∧ x.toNat ≠ 13 ∧ x.toNat ≠ 47 := by
  intro x hx; simp at hx; subst hx; exact h
theorem headP_cons {P : UInt8 → Prop} {c : UInt8} {r : List UInt8} (h : P c) : headP P (c :: r) := by intro x hx; simp at hx; subst hx; exact h
theorem nch_no_skip {c : UInt8} (h : nch c = true) : c.toNat ≠ 32 ∧ c.toNat ≠ 9 ∧ c.toNat ≠ 10 ∧ c.toNat ≠ 12 ∧ c.toNat ≠ 13 ∧ c.toNat ≠ 47 := by
  simp only [nch, decide_eq_true_eq] at h; omega
theorem head_no_skip {n r : List UInt8} (h : n.all nch = true) (h0 : n ≠ []) : ∀ c, (n ++ r).head? = some c → c.toNat ≠ 32 ∧ c.toNat ≠ 9 ∧ c.toNat ≠ 10 ∧ c.toNat ≠ 12 ∧ c.toNat ≠ 13 ∧ c.toNat ≠ 47 := by
  cases n with
  | nil => exact absurd rfl h0
  | cons a t =>
    intro c hc
    simp at hc; subst hc
    exact nch_no_skip (by simp at h; exact h.1)

set_option maxRecDepth 100000 in
set_option maxHeartbeats 4000000 in
theorem parseHas_any (w : World) (bp : Nat) (s : ByteArray) (i d : Nat) (n r : List UInt8) (hp : PS w bp s i d) (ha : At s i (91 :: (n ++ (93 :: r)))) (hs : s.size ≤ 140737488351232)
    (hn : n.all nch = true) (hh : headSmall n = true) :
    Calls Tryz.prog 82 #[.pointer (some ⟨bp, 0, none⟩)] w (PPost w bp s (i + 1 + n.length + 1) d (.tuple #[.agg #[.string (bs n), .string ⟨#[]⟩, .string ⟨#[]⟩, .bool false], .nilIface])) := by
  have h0 := hp.c0
  have h1 := hp.c1
  have f1 := hp.f1
  have hlt0 := ha.lt
  have hlt1 : (i : Int) < (s.size : Int) := by omega
  have hg0 := ha.get
  have e0 : ((s[i].toNat : Int) != 91) = false := by rw [hg0]; rfl
  have hlen : n.length ≤ 140737488351232 := by have := ha.len; simp at this; omega
  obtain ⟨j, hj⟩ : ∃ j, j = i + 1 + n.length := ⟨_, rfl⟩
  have ha2 : At s j (93 :: r) := by rw [hj]; exact ha.next.skip
  have hlt2 := ha2.lt
  have hlt3 : (j : Int) < (s.size : Int) := by omega
  have hg2 := ha2.get
  have e2 : ((s[j].toNat : Int) == 93) = true := by rw [hg2]; rfl
  have HA2 := Lib.hid ha2
  have HJ := Lib.hid hj
  rw [← hj]
  have HA := Lib.hid ha.next
  have HN := Lib.hid hn
  have HH := Lib.hid hh
  have HNE : n ≠ [] := by intro e; rw [e] at hh; simp [headSmall] at hh
  have hbp := hp.lt
  have HB := Lib.hid (heap_alloc_new w (.cells #[.string ⟨#[]⟩, .string ⟨#[]⟩, .string ⟨#[]⟩, .bool false] 165))
  have HQ := Lib.hid (St.start (hp.alloc (.cells #[.string ⟨#[]⟩, .string ⟨#[]⟩, .string ⟨#[]⟩, .bool false] 165)))
  clear ha hn hh hp hg0 hg2 ha2 hj
  go_enter Tryz.func82, Tryz.ntmps82
  go_wp2_with fail
  go_quiet (fail)
  go_wp2_with fail
  go_quiet (fail)
  go_wp2_with (first | (go_at_call 70; refine (skip_none _ bp s (i + 1) d _ (by exact ((HQ.out.drewN _).setI _ _ (by omega)).ps) HA.out hs (head_no_skip HN.out HNE)).mono ?_; rintro e w' ⟨rfl, hp2, hm2⟩; have HQ2 := Lib.hid (((HQ.out.drewN _).setI (i + 1) _ (by omega)).after hp2 hm2); clear hp2 hm2) | (go_at_call 87; refine (parseIdent_any _ bp s (i + 1) d n _ HQ2.out.ps HA.out hs HN.out HH.out (headP_cons (by simp [stopC]))).mono ?_; rintro e w' ⟨rfl, hp2, hm2⟩; rw [← HJ.out] at hp2; have HQ3 := Lib.hid (HQ2.out.after hp2 hm2); clear hp2 hm2) | (go_at_call 88; refine (lower_any n _ HN.out hlen).mono ?_; rintro e w'' ⟨rfl, rfl⟩) | (go_at_call 70; refine (skip_none _ bp s j d _ HQ3.out.ps HA2.out hs (ns_cons (by decide))).mono ?_; rintro e w' ⟨rfl, hp2, hm2⟩; have HQ4 := Lib.hid (HQ3.out.after hp2 hm2); clear hp2 hm2))
  have k0 := HQ4.out.c0
  have k1 := HQ4.out.c1
  have k2 := HQ4.out.f1
  have hz := HQ4.out.heap HB.out (by omega)
  have z0 := cell_of_heap hz 0
  have z1 := cell_of_heap hz 1
  have z2 := cell_of_heap hz 2
  have z3 := cell_of_heap hz 3
  have z4 := free_of_heap hz 0
  have z5 := free_of_heap hz 1
  have z6 := free_of_heap hz 2
  have z7 := free_of_heap hz 3
  have HZ := Lib.hid hz
  simp only [List.getElem?_toArray, List.getElem?_cons_zero, List.getElem?_cons_succ] at z0 z1 z2 z3
  clear h0 h1 f1 hz
  go_quiet (fail)
  go_wp2_with fail
  go_quiet (fail)
  go_wp2_with fail
  exact bodyPost_ret (v := .tuple #[.agg #[.string (bs n), .string ⟨#[]⟩, .string ⟨#[]⟩, .bool false], .nilIface]) (by simp [results, Tryz.results82, go_sem, z0, z1, z2, z3]) rfl (((((((HQ4.out.low.drewN _).setI (j + 1) _ (by omega)).setNew (Nat.le_refl _) hbp _ _).setNew (Nat.le_refl _) hbp _ _).setNew (Nat.le_refl _) hbp _ _).setNew (Nat.le_refl _) hbp _ _).post _)

end Go.Proofs.YteaapgijeehhfaaGreatDoor
