/- The parser reads a name. -/
/- The parser reads an identifier that begins with a small letter. -/
/- The parser reads a tag's, an id's and a class's selector. -/
import Derived.Test.YteaapgijeehhfaaGreatDoorZ02
namespace Go.Proofs.YteaapgijeehhfaaGreatDoor
open Go.RowKit

/-- What stands behind: nothing, or a byte of P. -/
def headP (P : UInt8 → Prop) (r : List UInt8) : Prop := ∀ c, r.head? = some c → P c

theorem At.at {s : ByteArray} {i : Nat} {l r : List UInt8} (h : At s i (l ++ r)) (k : Nat) (hk : k < l.length) : ∃ hlt : i + k < s.size, s[i + k] = l[k] := by
  have hlen := h.len
  simp at hlen
  refine ⟨by omega, ?_⟩
  have h2 : At s (i + k) (l.drop k ++ r) := by
    have h3 : At s i (l.take k ++ (l.drop k ++ r)) := by rw [← List.append_assoc, List.take_append_drop]; exact h
    have h4 := h3.skip
    rwa [List.length_take, Nat.min_eq_left (by omega)] at h4
  rw [List.drop_eq_getElem_cons hk] at h2
  exact h2.get

theorem At.end {s : ByteArray} {i : Nat} {l r : List UInt8} (h : At s i (l ++ r)) : (i + l.length = s.size ∧ r = []) ∨ ∃ hlt : i + l.length < s.size, r.head? = some (s[i + l.length]) := by
  have h2 := h.skip
  cases r with
  | nil => exact .inl ⟨by have := h2.len; simpa using this, rfl⟩
  | cons c r => exact .inr ⟨h2.lt, by rw [h2.get]; rfl⟩

theorem nch_class {c : UInt8} (h : nch c = true) : (97 ≤ (c.toNat : Int) ∧ (c.toNat : Int) ≤ 122) ∨ (48 ≤ (c.toNat : Int) ∧ (c.toNat : Int) ≤ 57) ∨ (c.toNat : Int) = 45 := by
  simp only [nch, decide_eq_true_eq] at h; omega
theorem stop_class {c : UInt8} (h : stopC c) : (c.toNat : Int) = 32 ∨ (c.toNat : Int) = 33 ∨ (c.toNat : Int) = 35 ∨ (c.toNat : Int) = 36 ∨ (c.toNat : Int) = 40 ∨ (c.toNat : Int) = 41 ∨ (c.toNat : Int) = 42 ∨ (c.toNat : Int) = 44 ∨ (c.toNat : Int) = 46 ∨ (c.toNat : Int) = 58 ∨ (c.toNat : Int) = 61 ∨ (c.toNat : Int) = 91 ∨ (c.toNat : Int) = 93 ∨ (c.toNat : Int) = 94 ∨ (c.toNat : Int) = 124 ∨ (c.toNat : Int) = 126 := by
  simp only [stopC] at h; omega

set_option maxRecDepth 100000 in
set_option maxHeartbeats 4000000 in
theorem parseName_any (w : World) (bp : Nat) (s : ByteArray) (i d : Nat) (n r : List UInt8) (hp : PS w bp s i d) (ha : At s i (n ++ r)) (hs : s.size ≤ 140737488351232)
    (hn : n.all nch = true) (h0n : n ≠ []) (hr : headP stopC r) :
    Calls Tryz.prog 89 #[.pointer (some ⟨bp, 0, none⟩)] w (PPost w bp s (i + n.length) d (.tuple #[.string (bs n), .nilIface])) := by
  have h0 := hp.c0
  have h1 := hp.c1
  have f1 := hp.f1
  have HP := Lib.hid hp
  have HA := Lib.hid ha
  have HN := Lib.hid hn
  have HR := Lib.hid hr
  have hnl : 0 < n.length := by cases n <;> simp_all
  have hle : i + n.length ≤ s.size := by have := ha.len; simp at this; omega
  have hsl := slice_at ha
  have hap := nil_append_bs n
  have hbn : (bs n).size ≤ 9223372036854775807 := by rw [bs_size]; omega
  have hbe : (bs n).toList.isEmpty = false := by rw [L_toList, L_bs]; cases n <;> simp_all
  clear hp ha hn hr h0n
  obtain ⟨hlt0, hg0⟩ := HA.out.at 0 hnl
  have hc0 := nch_class (List.all_eq_true.1 HN.out _ (List.getElem_mem hnl))
  have HC0 := Lib.hid hc0
  have HG0 := Lib.hid hg0
  simp only [Nat.add_zero] at hlt0
  clear hc0 hg0
  go_enter Tryz.func89, Tryz.ntmps89
  go_wp2_with fail
  go_step3
  go_wp2_with fail
  go_step3
  go_wp2_with fail
  refine wp_loop_rounds 2 ?_
  rw [rounds_succ]
  go_wp2_with (go_at_call 97; refine (nameChar_yes _ _ (by have := HC0.out; have h := HG0.out; simp only [Nat.add_zero] at h; rw [h]; exact this)).mono ?_; rintro e w' ⟨rfl, rfl⟩)
  go_loop [4] (fun t => ∃ k : Nat, k ≤ n.length ∧ t = .int .i64 ((i : Int) + k)) (fun t => n.length - ((intOf t).toNat - i))
  case atStart => exact ⟨0, Nat.zero_le _, by simp⟩
  case round =>
    obtain ⟨k, hk, rfl⟩ := hrel
    by_cases hlt : k < n.length
    · obtain ⟨hlk, hgk⟩ := HA.out.at k hlt
      have hck := nch_class (List.all_eq_true.1 HN.out _ (List.getElem_mem hlt))
      have HCK := Lib.hid hck
      have HGK := Lib.hid hgk
      clear hck hgk
      go_wp2_with (go_at_call 97; refine (nameChar_yes _ _ (by have := HCK.out; rw [HGK.out]; exact this)).mono ?_; rintro e w' ⟨rfl, rfl⟩)
      go_round
      case rel => exact ⟨k + 1, by omega, by go_num⟩
      case measure => simp [intOf]; omega
    · obtain rfl : k = n.length := by omega
      rcases HA.out.end with ⟨he, hre⟩ | ⟨hle2, hhd⟩
      · have hnl2 : ¬ ((i : Int) + n.length < (s.size : Int)) := by omega
        clear he
        go_wp2_with fail
        rw [rounds_succ]
        go_wp2_with fail
        rw [Exit.noGoto_ret]
        go_ret2
        exact ⟨rfl, HP.out.setI _ _ (by omega), (Mv.refl _ _).setCell _ _⟩
      · have HST := Lib.hid (stop_class (HR.out _ hhd))
        clear hhd
        go_wp2_with (go_at_call 97; refine (nameChar_no _ _ HST.out).mono ?_; rintro e w' ⟨rfl, rfl⟩)
        rw [rounds_succ]
        have h92 : ((s[i + n.length].toNat : Int) == 92) = false := by have := HST.out; simp; omega
        go_wp2_with (go_at_call 97; refine (nameChar_no _ _ HST.out).mono ?_; rintro e w' ⟨rfl, rfl⟩)
        rw [Exit.noGoto_ret]
        go_ret2
        exact ⟨rfl, HP.out.setI _ _ (by omega), (Mv.refl _ _).setCell _ _⟩

end Go.Proofs.YteaapgijeehhfaaGreatDoor

namespace Go.Proofs.YteaapgijeehhfaaGreatDoor
open Go.RowKit

theorem headSmall_cons {n : List UInt8} (h : headSmall n = true) : ∃ c t, n = c :: t ∧ 97 ≤ (c.toNat : Int) ∧ (c.toNat : Int) ≤ 122 := by
  cases n with
  | nil => simp [headSmall] at h
  | cons c t => simp only [headSmall, smallC, decide_eq_true_eq] at h; exact ⟨c, t, rfl, by omega, by omega⟩

set_option maxRecDepth 100000 in
set_option maxHeartbeats 4000000 in
theorem parseIdent_any (w : World) (bp : Nat) (s : ByteArray) (i d : Nat) (n r : List UInt8) (hp : PS w bp s i d) (ha : At s i (n ++ r)) (hs : s.size ≤ 140737488351232)
    (hn : n.all nch = true) (hh : headSmall n = true) (hr : headP stopC r) :
    Calls Tryz.prog 87 #[.pointer (some ⟨bp, 0, none⟩)] w (PPost w bp s (i + n.length) d (.tuple #[.string (bs n), .nilIface])) := by
  obtain ⟨c, t, rfl, hc1, hc2⟩ := headSmall_cons hh
  have h0 := hp.c0
  have h1 := hp.c1
  have HP := Lib.hid hp
  have hlt0 : i < s.size := At.lt (r := t ++ r) (by simpa using ha)
  have hg0 : s[i] = c := At.get (r := t ++ r) (by simpa using ha)
  have hlt1 : (i : Int) < (s.size : Int) := by omega
  have e0 : ((s[i].toNat : Int) == 45) = false := by rw [hg0]; simp; omega
  have hc1' : 97 ≤ (s[i].toNat : Int) := by rw [hg0]; exact hc1
  have hc2' : (s[i].toNat : Int) ≤ 122 := by rw [hg0]; exact hc2
  have HA := Lib.hid ha
  have HN := Lib.hid hn
  have HR := Lib.hid hr
  clear ha hg0 hc1 hc2 hn hr hh hp
  go_enter Tryz.func87, Tryz.ntmps87
  go_wp2_with fail
  refine wp_loop_rounds 1 ?_
  rw [rounds_succ]
  go_wp2_with fail
  go_quiet (fail)
  go_wp2_with fail
  go_quiet (fail)
  go_wp2_with fail
  go_quiet (fail)
  go_wp2_with (first | (go_at_call 95; refine (nameStart_yes _ _ hc1' hc2').mono ?_; rintro e w' ⟨rfl, rfl⟩) | (go_at_call 89; refine (parseName_any _ bp s i d (c :: t) r (by exact HP.out) HA.out hs HN.out (by simp) HR.out).mono ?_; rintro e w' ⟨rfl, hp2, hm2⟩))
  go_ret2
  exact ⟨rfl, hp2, ((Mv.refl bp w).drewN _).trans hm2⟩

/-- toLowerASCII of a text without great letters. -/
theorem no_upper {c : UInt8} (h : nch c = true) : decide (65 ≤ (c.toNat : Int)) = true → decide ((c.toNat : Int) ≤ 90) = false := by
  simp only [nch, decide_eq_true_eq, decide_eq_false_iff_not] at h ⊢; omega

set_option maxRecDepth 100000 in
set_option maxHeartbeats 4000000 in
theorem lower_any (n : List UInt8) (w : World) (hn : n.all nch = true) (hs : n.length ≤ 140737488351232) :
    Calls Tryz.prog 88 #[.string (bs n)] w fun e w' => e = .returned (.string (bs n)) ∧ w = w' := by
  have HN := Lib.hid hn
  obtain ⟨s, hse⟩ : ∃ s, s = bs n := ⟨_, rfl⟩
  have hsz : s.size = n.length := by rw [hse, bs_size]
  have hsl : s.size ≤ 140737488351232 := by omega
  have HL : Hid (L s = n) := Lib.hid (by rw [hse, L_bs])
  rw [← hse]
  have HE := Lib.hid hse
  clear hse hn hsz
  have hsn := fun wx => Lib.run_eql_slice_nil (P := Tryz.prog) wx 133 5 none 0 0 0 0 Tryz.underlying133
  go_enter Tryz.func88, Tryz.ntmps88
  go_wp2_with fail
  go_loop [3, 4] (fun b i => ∃ k : Nat, k ≤ s.size ∧ i = .int .i64 k ∧ b = .slice none 0 0) (fun _ i => s.size - (intOf i).toNat)
  case atStart => exact ⟨0, Nat.zero_le _, rfl, rfl⟩
  case round =>
    obtain ⟨k, hk, rfl, rfl⟩ := hrel
    by_cases hlt : k < s.size
    · have hc : nch s[k] = true := by
        have h1 := HN.out
        rw [← HL.out] at h1
        exact List.all_eq_true.1 h1 _ (List.getElem_mem (by rw [L_len]; exact hlt))
      have hx := no_upper hc
      clear hc
      by_cases h65 : 65 ≤ (s[k].toNat : Int)
      · have h90 := hx (by simpa using h65)
        clear hx
        go_wp2_with fail
        go_round
        case rel => exact ⟨k + 1, by omega, by go_num, rfl⟩
        case measure => simp [intOf]; omega
      · clear hx
        have h65' : (s[k].toNat : Int) < 65 := by omega
        clear h65
        go_wp2_with fail
        go_round
        case rel => exact ⟨k + 1, by omega, by go_num, rfl⟩
        case measure => simp [intOf]; omega
    · go_wp2_with fail
      go_ret
      exact ⟨rfl, rfl⟩

end Go.Proofs.YteaapgijeehhfaaGreatDoor

namespace Go.Proofs.YteaapgijeehhfaaGreatDoor
open Go.RowKit

set_option maxRecDepth 100000 in
set_option maxHeartbeats 4000000 in
theorem parseType_any (w : World) (bp : Nat) (s : ByteArray) (i d : Nat) (n r : List UInt8) (hp : PS w bp s i d) (ha : At s i (n ++ r)) (hs : s.size ≤ 140737488351232)
    (hn : n.all nch = true) (hh : headSmall n = true) (hr : headP stopC r) :
    Calls Tryz.prog 79 #[.pointer (some ⟨bp, 0, none⟩)] w (PPost w bp s (i + n.length) d (.tuple #[.agg #[.string (bs n)], .nilIface])) := by
  have HP := Lib.hid hp
  have HA := Lib.hid ha
  have HN := Lib.hid hn
  have HH := Lib.hid hh
  have HR := Lib.hid hr
  have hbp := hp.lt
  have hlen : n.length ≤ 140737488351232 := by have := ha.len; simp at this; omega
  clear ha hn hr hh hp
  go_enter Tryz.func79, Tryz.ntmps79
  go_wp2_with (first | (go_at_call 87; refine (parseIdent_any _ bp s i d n r (by exact HP.out.alloc _) HA.out hs HN.out HH.out HR.out).mono ?_; rintro e w' ⟨rfl, hp2, hm2⟩; have hz := hm2.new0 hbp; have hz0 := cell_of_heap hz 0; have hz1 := free_of_heap hz 0; clear hz; simp only [List.getElem?_toArray, List.getElem?_cons_zero] at hz0) | (go_at_call 88; refine (lower_any n _ HN.out hlen).mono ?_; rintro e w'' ⟨rfl, rfl⟩))
  exact bodyPost_ret (v := .tuple #[.agg #[.string (bs n)], .nilIface]) (by simp [results, Tryz.results79, go_sem, hz0]) rfl ⟨rfl, hp2.setOther (by omega) _, (((Mv.refl _ _).alloc _).trans hm2).setNew (Nat.le_refl _) _ _⟩

set_option maxRecDepth 100000 in
set_option maxHeartbeats 4000000 in
theorem parseID_any (w : World) (bp : Nat) (s : ByteArray) (i d : Nat) (n r : List UInt8) (hp : PS w bp s i d) (ha : At s i (35 :: (n ++ r))) (hs : s.size ≤ 140737488351232)
    (hn : n.all nch = true) (hh : headSmall n = true) (hr : headP stopC r) :
    Calls Tryz.prog 80 #[.pointer (some ⟨bp, 0, none⟩)] w (PPost w bp s (i + 1 + n.length) d (.tuple #[.agg #[.string (bs n)], .nilIface])) := by
  have HP := Lib.hid hp
  have h0 := hp.c0
  have h1 := hp.c1
  have f1 := hp.f1
  have hlt0 := ha.lt
  have hlt1 : (i : Int) < (s.size : Int) := by omega
  have hg0 := ha.get
  have e0 : ((s[i].toNat : Int) != 35) = false := by rw [hg0]; rfl
  have HA := Lib.hid ha.next
  have HN := Lib.hid hn
  have HNE : n ≠ [] := by intro e; rw [e] at hh; simp [headSmall] at hh
  have HR := Lib.hid hr
  have hbp := hp.lt
  clear ha hn hr hh hp hg0
  go_enter Tryz.func80, Tryz.ntmps80
  go_wp2_with fail
  go_quiet (fail)
  go_wp2_with fail
  go_quiet (fail)
  go_wp2_with (first | (go_at_call 89; refine (parseName_any _ bp s (i + 1) d n r (by exact (HP.out.alloc _).setI _ _ (by omega)) HA.out hs HN.out HNE HR.out).mono ?_; rintro e w' ⟨rfl, hp2, hm2⟩; have hmv := (((Mv.refl bp (w.alloc (.cells #[.string ⟨#[]⟩] 157))).drewN _).setCell 1 (.int .i64 ((i : Int) + 1))).trans hm2; have hz0 := cell_of_heap (hmv.new0 hbp) 0; have hz1 := free_of_heap (hmv.new0 hbp) 0; have HM := Lib.hid hmv; clear hmv hm2; simp only [List.getElem?_toArray, List.getElem?_cons_zero] at hz0))
  exact bodyPost_ret (v := .tuple #[.agg #[.string (bs n)], .nilIface]) (by simp [results, Tryz.results80, go_sem, hz0]) rfl ⟨rfl, hp2.setOther (by omega) _, (((Mv.refl _ w).alloc _).trans HM.out).setNew (Nat.le_refl _) _ _⟩

set_option maxRecDepth 100000 in
set_option maxHeartbeats 4000000 in
theorem parseClass_any (w : World) (bp : Nat) (s : ByteArray) (i d : Nat) (n r : List UInt8) (hp : PS w bp s i d) (ha : At s i (46 :: (n ++ r))) (hs : s.size ≤ 140737488351232)
    (hn : n.all nch = true) (hh : headSmall n = true) (hr : headP stopC r) :
    Calls Tryz.prog 81 #[.pointer (some ⟨bp, 0, none⟩)] w (PPost w bp s (i + 1 + n.length) d (.tuple #[.agg #[.string (bs n)], .nilIface])) := by
  have HP := Lib.hid hp
  have h0 := hp.c0
  have h1 := hp.c1
  have f1 := hp.f1
  have hlt0 := ha.lt
  have hlt1 : (i : Int) < (s.size : Int) := by omega
  have hg0 := ha.get
  have e0 : ((s[i].toNat : Int) != 46) = false := by rw [hg0]; rfl
  have HA := Lib.hid ha.next
  have HN := Lib.hid hn
  have HH := Lib.hid hh
  have HR := Lib.hid hr
  have hbp := hp.lt
  clear ha hn hr hh hp hg0
  go_enter Tryz.func81, Tryz.ntmps81
  go_wp2_with fail
  go_quiet (fail)
  go_wp2_with fail
  go_quiet (fail)
  go_wp2_with (first | (go_at_call 87; refine (parseIdent_any _ bp s (i + 1) d n r (by exact (HP.out.alloc _).setI _ _ (by omega)) HA.out hs HN.out HH.out HR.out).mono ?_; rintro e w' ⟨rfl, hp2, hm2⟩; have hmv := (((Mv.refl bp (w.alloc (.cells #[.string ⟨#[]⟩] 161))).drewN _).setCell 1 (.int .i64 ((i : Int) + 1))).trans hm2; have hz0 := cell_of_heap (hmv.new0 hbp) 0; have hz1 := free_of_heap (hmv.new0 hbp) 0; have HM := Lib.hid hmv; clear hmv hm2; simp only [List.getElem?_toArray, List.getElem?_cons_zero] at hz0))
  exact bodyPost_ret (v := .tuple #[.agg #[.string (bs n)], .nilIface]) (by simp [results, Tryz.results81, go_sem, hz0]) rfl ⟨rfl, hp2.setOther (by omega) _, (((Mv.refl _ w).alloc _).trans HM.out).setNew (Nat.le_refl _) _ _⟩

end Go.Proofs.YteaapgijeehhfaaGreatDoor
