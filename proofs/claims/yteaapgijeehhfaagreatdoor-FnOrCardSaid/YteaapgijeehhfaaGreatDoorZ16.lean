/- What reading a selector with its joins needs. -/
/- The parser reads a selector with its joins. -/
/- The parser reads a group of selectors. -/
import Derived.Test.YteaapgijeehhfaaGreatDoorZ15
import Derived.Defers
namespace Go.Proofs.YteaapgijeehhfaaGreatDoor
open Go.RowKit

theorem RPs.val {R : GRep} {X : Nat → Prop} {w : World} {v : Value} {l : List Simple} (h : RPs R X w v l) : ∃ T x, v = .iface T x := by
  rcases h with ⟨s, _, gv, rfl, _⟩ | ⟨_, sl, rfl, _⟩
  · exact vSm_ps s gv
  · exact ⟨_, _, rfl⟩
theorem RCx.val {R : GRep} {X : Nat → Prop} {w : World} {v : Value} {l : List Compound} (h : RCx R X w v l) : ∃ T x, v = .iface T x := by
  cases l with
  | nil => exact h.elim
  | cons p l =>
    cases l with
    | nil => exact RPs.val h
    | cons q l => obtain ⟨v1, v2, rfl, _⟩ := h; exact ⟨_, _, rfl⟩
theorem RCx_more {R : GRep} {X : Nat → Prop} {w : World} {v1 v2 : Value} {p : Compound} {m : List Compound} (hm : m ≠ []) (h1 : RCx R X w v1 m) (h2 : RPs R X w v2 (p.2.filter notAny)) :
    RCx R X w (.iface 148 (.agg #[v1, .int .u8 (joinB p.1), v2])) (p :: m) := by
  cases m with
  | nil => exact absurd rfl hm
  | cons q l => exact ⟨v1, v2, rfl, h1.one, h2.one, h1, h2⟩

/-- No byte that the parser's selector asks for. -/
def plainC (c : UInt8) : Prop := c.toNat ≠ 32 ∧ c.toNat ≠ 9 ∧ c.toNat ≠ 10 ∧ c.toNat ≠ 12 ∧ c.toNat ≠ 13 ∧ c.toNat ≠ 47 ∧ c.toNat ≠ 43 ∧ c.toNat ≠ 62 ∧ c.toNat ≠ 126 ∧ c.toNat ≠ 44 ∧ c.toNat ≠ 41
theorem parts_head {wg : Group → List UInt8} {og : Group → Prop} {l : List Simple} (hok : okParts og l) (r : List UInt8) : ∃ c u, wParts wg l ++ r = c :: u ∧ plainC c := by
  obtain ⟨q0, l', rfl⟩ : ∃ q0 l', l = q0 :: l' := by
    cases l with
    | nil => exact absurd hok.len.1 (by simp)
    | cons q l => exact ⟨q, l, rfl⟩
  have hq0 : okSm og q0 := (hok.each 0 (by simp)).1
  rw [wParts_cons, List.append_assoc]
  by_cases hk0 : q0.kind = 0
  · obtain ⟨h1, h2, _⟩ := nameL_iff (hq0.name (by omega) (by omega) (by omega) (by omega) (by omega) (by omega))
    obtain ⟨c, t, e, hc⟩ := headSmall_cons h2
    rw [wSm_0 hk0, e]; exact ⟨_, _, rfl, by unfold plainC; omega⟩
  · by_cases hk1 : q0.kind = 1
    · rw [wSm_1 hk1]; exact ⟨_, _, rfl, by unfold plainC; decide⟩
    · rcases sm_class hq0 (by have := hq0.kind; omega) with h | h | h | h
      · rw [wSm_2 h]; exact ⟨_, _, rfl, by unfold plainC; decide⟩
      · rw [wSm_3 h]; exact ⟨_, _, rfl, by unfold plainC; decide⟩
      · obtain ⟨t, ht⟩ := wSm_at (wg := wg) h; rw [ht]; exact ⟨_, _, rfl, by unfold plainC; decide⟩
      · obtain ⟨t, ht⟩ := wSm_ps (wg := wg) h; rw [ht]; exact ⟨_, _, rfl, by unfold plainC; decide⟩
theorem plain_ns {c : UInt8} (h : plainC c) : c.toNat ≠ 32 ∧ c.toNat ≠ 9 ∧ c.toNat ≠ 10 ∧ c.toNat ≠ 12 ∧ c.toNat ≠ 13 ∧ c.toNat ≠ 47 := ⟨h.1, h.2.1, h.2.2.1, h.2.2.2.1, h.2.2.2.2.1, h.2.2.2.2.2.1⟩

/-- What may stand behind a selector. -/
def stopX (c : UInt8) : Prop := c.toNat = 44 ∨ c.toNat = 41
theorem wJoin_head (j : ByteArray) : ∃ u, wJoin j = 32 :: u := by unfold wJoin; split <;> exact ⟨_, rfl⟩
theorem more_stop {wg : Group → List UInt8} (l : List Compound) {r : List UInt8} (hr : headP stopX r) : headP stopP (l.flatMap (wMore wg) ++ r) := by
  cases l with
  | nil => intro c hc; have h := hr c (by simpa using hc); unfold stopX at h; unfold stopP; omega
  | cons p l =>
    obtain ⟨u, hu⟩ := wJoin_head p.1
    rw [List.flatMap_cons]; unfold wMore; rw [hu]
    exact headP_cons (by unfold stopP; decide)
theorem stopX_ns {r : List UInt8} (hr : headP stopX r) : ∀ c, r.head? = some c → c.toNat ≠ 32 ∧ c.toNat ≠ 9 ∧ c.toNat ≠ 10 ∧ c.toNat ≠ 12 ∧ c.toNat ≠ 13 ∧ c.toNat ≠ 47 := by
  intro c hc; have h := hr c hc; unfold stopX at h; omega

theorem St.cast {bp d : Nat} {s : ByteArray} {w0 w : World} {i j : Nat} (h : St bp s d w0 w i) (e : i = j) : St bp s d w0 w j := e ▸ h

/-- What reading a selector leaves. -/
def SelPost (D : Nat) (c : Complex) (w : World) (bp : Nat) (s : ByteArray) (j d : Nat) (e : Ending) (w' : World) : Prop :=
  ∃ v, e = .returned (.tuple #[v, .nilIface]) ∧ RCr (RS D) (fun k => w.heap.size ≤ k) w' v c ∧ PS w' bp s j d ∧ Mv bp w w'

/-- The first skip of a selector. -/
theorem skip_sp (w : World) (bp : Nat) (s : ByteArray) (i d : Nat) (sp r : List UInt8) (hp : PS w bp s i d) (ha : At s i (sp ++ r)) (hs : s.size ≤ 140737488351232) (hsp : sp = [] ∨ sp = [32])
    (hr : ∃ c u, r = c :: u ∧ plainC c) :
    Calls Tryz.prog 70 #[.pointer (some ⟨bp, 0, none⟩)] w (fun e w' => ∃ b, PPost w bp s (i + sp.length) d (.bool b) e w') := by
  obtain ⟨c, u, rfl, hc⟩ := hr
  rcases hsp with rfl | rfl
  · exact (skip_none w bp s i d _ hp ha hs (ns_cons (plain_ns hc))).mono fun e w' h => ⟨_, h⟩
  · exact (skip_one w bp s i d c u hp ha hs (plain_ns hc)).mono fun e w' h => ⟨_, h⟩

end Go.Proofs.YteaapgijeehhfaaGreatDoor

namespace Go.Proofs.YteaapgijeehhfaaGreatDoor
open Go.RowKit

set_option maxRecDepth 100000 in
set_option maxHeartbeats 8000000 in
theorem parseSel_any (D : Nat) (wg : Group → List UInt8) (w : World) (bp : Nat) (s : ByteArray) (i d : Nat) (sp : List UInt8) (c : Complex) (r : List UInt8) (hp : PS w bp s i d) (ha : At s i (sp ++ (wCx wg c ++ r))) (hs : s.size ≤ 140737488351232)
    (hsp : sp = [] ∨ sp = [32]) (hok : okCx (okG D) c) (hr : headP stopX r)
    (hw : ∀ g, okG D g → ∀ r, noSkip (wg g ++ (41 :: r)))
    (hG : ∀ g, okG D g → ∀ W j r, PS W bp s j d → At s j (wg g ++ (41 :: r)) → Calls Tryz.prog 52 #[.pointer (some ⟨bp, 0, none⟩)] W (GPost D g W bp s (j + (wg g).length) d)) :
    Calls Tryz.prog 59 #[.pointer (some ⟨bp, 0, none⟩)] w (SelPost D c w bp s (i + sp.length + (wCx wg c).length) d) := by
  obtain ⟨p0, rest, rfl⟩ : ∃ p0 rest, c = p0 :: rest := by
    cases c with
    | nil => exact absurd hok.len.1 (by simp)
    | cons q l => exact ⟨q, l, rfl⟩
  have hrest : ∀ k (h : k < rest.length), okParts (okG D) rest[k].2 ∧ okJoin rest[k].1 := by
    intro k hk
    have := hok.each (k + 1) (by simp; omega)
    exact ⟨this.1, this.2 (by omega)⟩
  have hp0 : okParts (okG D) p0.2 := (hok.each 0 (by simp)).1
  have hlen : rest.length ≤ 3 := by have := hok.len.2; simp at this; omega
  have ecx : wCx wg (p0 :: rest) = wParts wg p0.2 ++ rest.flatMap (wMore wg) := rfl
  rw [ecx, List.append_assoc] at ha
  rw [ecx]
  obtain ⟨i1, hi1⟩ : ∃ i1, i1 = i + sp.length := ⟨_, rfl⟩
  obtain ⟨i2, hi2⟩ : ∃ i2, i2 = i1 + (wParts wg p0.2).length := ⟨_, rfl⟩
  obtain ⟨jend, hje⟩ : ∃ jend, jend = i2 + (rest.flatMap (wMore wg)).length := ⟨_, rfl⟩
  rw [show i + sp.length + (wParts wg p0.2 ++ rest.flatMap (wMore wg)).length = jend by rw [hje, hi2, hi1, List.length_append]; omega]
  have ha1 : At s i1 (wParts wg p0.2 ++ (rest.flatMap (wMore wg) ++ r)) := by rw [hi1]; exact ha.skip
  have ha2 : At s i2 (rest.flatMap (wMore wg) ++ r) := by rw [hi2]; exact ha1.skip
  have HA := Lib.hid ha
  have HA1 := Lib.hid ha1
  have HA2 := Lib.hid ha2
  have HI1 := Lib.hid hi1
  have HI2 := Lib.hid hi2
  have HJE := Lib.hid hje
  have HR := Lib.hid hr
  have HSP := Lib.hid hsp
  have HREST := Lib.hid hrest
  have HP0 := Lib.hid hp0
  have HLN := Lib.hid hlen
  have HW := Lib.hid (fun g (h : okG D g) => hw g h)
  have HG := Lib.hid (fun g (h : okG D g) => hG g h)
  have HBP := Lib.hid hp.lt
  have HS0 := Lib.hid (St.start hp)
  clear hp ha ha1 ha2 hi1 hi2 hje hr hsp hrest hp0 hlen hw hG hok ecx
  go_enter Tryz.func59, Tryz.ntmps59
  go_wp2_with (first | (go_at_call 70; refine (skip_sp _ bp s i d sp _ (by exact HS0.out.ps) HA.out hs HSP.out (parts_head HP0.out _)).mono ?_; rintro e w' ⟨b, rfl, hp2, hm2⟩; rw [← HI1.out] at hp2; have HS1 := Lib.hid (HS0.out.after hp2 hm2); clear hp2 hm2) | (go_at_call 71; refine (parseSeq_any D wg _ bp s i1 d p0.2 _ (by exact HS1.out.ps) HA1.out hs HP0.out (more_stop rest HR.out) HW.out HG.out).mono ?_; rintro e w' ⟨v, rfl, hv, hp2, hm2⟩; obtain ⟨T, x, rfl⟩ := hv.val; rw [← HI2.out] at hp2; have HV := Lib.hid ((RPs.rep (RS.rep D)).mono (fun k (hk : _ ≤ k) => Nat.le_trans HS1.out.mv.size hk) hv); have HS2 := Lib.hid (HS1.out.after hp2 hm2); clear hp2 hm2 hv))
  go_loopg [4] rest.length (fun n v W => ∃ k : Nat, n = rest.length - k ∧ k ≤ rest.length ∧ RCx (RS D) (fun k => w.heap.size ≤ k) W v (p0 :: rest.take k).reverse ∧ St bp s d w W (i2 + ((rest.take k).flatMap (wMore wg)).length))
  case atStart => exact ⟨0, rfl, Nat.zero_le _, HV.out, HS2.out⟩
  case round =>
    obtain ⟨k, rfl, hk, hrc, hst⟩ := hrel
    obtain ⟨T4, x4, rfl⟩ := hrc.val
    obtain ⟨p, hp⟩ : ∃ p, p = i2 + ((rest.take k).flatMap (wMore wg)).length := ⟨_, rfl⟩
    rw [← hp] at hst
    have hap : At s p ((rest.drop k).flatMap (wMore wg) ++ r) := by
      have h := HA2.out
      have e := List.flatMap_append (xs := rest.take k) (ys := rest.drop k) (f := wMore wg)
      rw [List.take_append_drop] at e
      rw [e, List.append_assoc] at h
      rw [hp]; exact h.skip
    have HRC := Lib.hid hrc
    have HS := Lib.hid hst
    have HPP := Lib.hid hp
    clear hrc hst hp
    by_cases hlt : k < rest.length
    · --[B
      obtain ⟨q, hq⟩ : ∃ q, rest[k] = q := ⟨_, rfl⟩
      obtain ⟨hqo, hqj⟩ := HREST.out k hlt
      rw [hq] at hqo hqj
      have hd : rest.drop k = q :: rest.drop (k + 1) := by rw [List.drop_eq_getElem_cons hlt, hq]
      rw [hd, List.flatMap_cons, List.append_assoc] at hap
      obtain ⟨r', hr'⟩ : ∃ r', r' = (rest.drop (k + 1)).flatMap (wMore wg) ++ r := ⟨_, rfl⟩
      have hrs : headP stopP r' := by rw [hr']; exact more_stop _ HR.out
      have hnext : i2 + ((rest.take (k + 1)).flatMap (wMore wg)).length = p + (wMore wg q).length := by
        rw [← take_push hlt hq, List.flatMap_append, HPP.out, List.length_append]; simp; omega
      have hrev : (p0 :: rest.take (k + 1)).reverse = q :: (p0 :: rest.take k).reverse := by
        rw [← take_push hlt hq]; simp
      rw [← hr'] at hap
      obtain ⟨c1, u1, hcu, hpl⟩ := parts_head (wg := wg) hqo r'
      have HQO := Lib.hid hqo
      have HRS := Lib.hid hrs
      have HN := Lib.hid hnext
      have HREV := Lib.hid hrev
      have HCU := Lib.hid hcu
      have HPL := Lib.hid hpl
      unfold wMore at hap
      rw [List.append_assoc] at hap
      have HAP := Lib.hid hap
      have HQJ := Lib.hid hqj
      clear hq hqo hqj hd hr' hrs hnext hrev hcu hpl hap
      by_cases hj32 : L q.1 = [32]
      · have ej : wJoin q.1 = [32] := by unfold wJoin; rw [if_pos hj32]
        have hap1 : At s p (32 :: c1 :: u1) := by have h := HAP.out; rw [ej, HCU.out] at h; exact h
        obtain ⟨p1, hp1⟩ : ∃ p1, p1 = p + 1 := ⟨_, rfl⟩
        have hap2 : At s p1 (c1 :: u1) := by rw [hp1]; exact hap1.next
        have hap3 : At s p1 (wParts wg q.2 ++ r') := by rw [HCU.out]; exact hap2
        have hlt1 := hap2.lt
        have hlt1i : (p1 : Int) < (s.size : Int) := by omega
        have hg1 := hap2.get
        have hpl := HPL.out
        unfold plainC at hpl
        have e43 : ((s[p1].toNat : Int) == 43) = false := by rw [hg1]; simp; omega
        have e62 : ((s[p1].toNat : Int) == 62) = false := by rw [hg1]; simp; omega
        have e126 : ((s[p1].toNat : Int) == 126) = false := by rw [hg1]; simp; omega
        have e44 : ((s[p1].toNat : Int) == 44) = false := by rw [hg1]; simp; omega
        have e41 : ((s[p1].toNat : Int) == 41) = false := by rw [hg1]; simp; omega
        have HAP1 := Lib.hid hap1
        have HAP3 := Lib.hid hap3
        have HP1 := Lib.hid hp1
        clear hap1 hap2 hap3 hp1 hg1 hpl
        go_wp2_with (go_at_call 70; refine (skip_one _ bp s p d c1 u1 (by exact HS.out.ps) HAP1.out hs (plain_ns HPL.out)).mono ?_; rintro e w' ⟨rfl, hp2, hm2⟩; rw [← HP1.out] at hp2; have HS3 := Lib.hid (HS.out.after hp2 hm2); have HM3 := Lib.hid hm2; clear hp2 hm2)
        have g0 := HS3.out.c0
        have g1 := HS3.out.c1
        go_quiet (fail)
        go_wp2_with fail
        go_quiet (fail)
        go_wp2_with (go_at_call 71; refine (parseSeq_any D wg _ bp s p1 d q.2 _ (by exact (HS3.out.drewN _).ps) HAP3.out hs HQO.out HRS.out HW.out HG.out).mono ?_; rintro e w' ⟨v, rfl, hv, hp2, hm2⟩; obtain ⟨T, x, rfl⟩ := hv.val; have HV5 := Lib.hid ((RPs.rep (RS.rep D)).mono (fun k (hk : _ ≤ k) => Nat.le_trans HS3.out.mv.size hk) hv); have HM5 := Lib.hid ((HM3.out.drewN _).trans hm2); have HS5 := Lib.hid ((HS3.out.drewN _).after hp2 hm2); clear hp2 hm2 hv)
        go_roundg (rest.length - (k + 1))
        case measure => omega
        case rel =>
          refine ⟨k + 1, rfl, by omega, ?_, ?_⟩
          · rw [HREV.out]
            have hrc2 := (RCx.rep (RS.rep D)).keep (HM5.out.keep.weak (fun j _ (hj : w.heap.size ≤ j) => by have := HBP.out; omega)) HRC.out
            have hjb : joinB q.1 = 32 := by unfold joinB; rw [hj32]; rfl
            have := RCx_more (p := q) (by simp) hrc2 HV5.out
            rw [hjb] at this
            exact this
          · rw [HN.out]; unfold wMore; rw [ej, List.length_append]
            exact HS5.out.cast (by rw [HP1.out]; simp; omega)
      · rcases HQJ.out with hjx | hjx | hjx | hjx
        · exact absurd hjx hj32
        · have ej : wJoin q.1 = [32, 62, 32] := by unfold wJoin; rw [if_neg hj32, hjx]; rfl
          have hap1 : At s p (32 :: 62 :: 32 :: c1 :: u1) := by have h := HAP.out; rw [ej, HCU.out] at h; exact h
          obtain ⟨p1, hp1⟩ : ∃ p1, p1 = p + 1 := ⟨_, rfl⟩
          obtain ⟨p2, hp2⟩ : ∃ p2, p2 = p1 + 1 := ⟨_, rfl⟩
          obtain ⟨p3, hp3⟩ : ∃ p3, p3 = p2 + 1 := ⟨_, rfl⟩
          have hap2 : At s p1 (62 :: 32 :: c1 :: u1) := by rw [hp1]; exact hap1.next
          have hap3 : At s p2 (32 :: c1 :: u1) := by rw [hp2]; exact hap2.next
          have hap4 : At s p3 (wParts wg q.2 ++ r') := by rw [hp3, HCU.out]; exact hap3.next
          have hlt1 := hap2.lt
          have hlt1i : (p1 : Int) < (s.size : Int) := by omega
          have hg1 := hap2.get
          have e43 : ((s[p1].toNat : Int) == 43) = false := by rw [hg1]; rfl
          have e62 : ((s[p1].toNat : Int) == 62) = true := by rw [hg1]; rfl
          have HGX := Lib.hid (show (s[p1].toNat : Int) = 62 by rw [hg1]; rfl)
          have HAP1 := Lib.hid hap1
          have HAP3 := Lib.hid hap3
          have HAP4 := Lib.hid hap4
          have HP1 := Lib.hid hp1
          have HP2 := Lib.hid hp2
          have HP3 := Lib.hid hp3
          clear hap1 hap2 hap3 hap4 hp1 hp2 hp3 hg1
          go_wp2_with (go_at_call 70; refine (skip_one _ bp s p d 62 (32 :: c1 :: u1) (by exact HS.out.ps) HAP1.out hs (by decide)).mono ?_; rintro e w' ⟨rfl, hp2, hm2⟩; rw [← HP1.out] at hp2; have HS3 := Lib.hid (HS.out.after hp2 hm2); have HM3 := Lib.hid hm2; clear hp2 hm2)
          have g0 := HS3.out.c0
          have g1 := HS3.out.c1
          have g2 := HS3.out.f1
          go_quiet (fail)
          go_wp2_with fail
          go_quiet (fail)
          go_wp2_with fail
          go_quiet (fail)
          go_wp2_with (first | (go_at_call 70; refine (skip_one _ bp s p2 d c1 u1 (by exact ((HS3.out.drewN _).setI p2 _ (by have := HP2.out; omega)).ps) HAP3.out hs (plain_ns HPL.out)).mono ?_; rintro e w' ⟨rfl, hp2, hm2⟩; rw [← HP3.out] at hp2; have HM4 := Lib.hid (((HM3.out.drewN _).setCell _ _).trans hm2); have HS4 := Lib.hid (((HS3.out.drewN _).setI p2 _ (by have := HP2.out; omega)).after hp2 hm2); clear hp2 hm2) | (go_at_call 71; refine (parseSeq_any D wg _ bp s p3 d q.2 _ (by exact HS4.out.ps) HAP4.out hs HQO.out HRS.out HW.out HG.out).mono ?_; rintro e w' ⟨v, rfl, hv, hp2, hm2⟩; obtain ⟨T, x, rfl⟩ := hv.val; have HV5 := Lib.hid ((RPs.rep (RS.rep D)).mono (fun k (hk : _ ≤ k) => Nat.le_trans HS4.out.mv.size hk) hv); have HM5 := Lib.hid (HM4.out.trans hm2); have HS5 := Lib.hid (HS4.out.after hp2 hm2); clear hp2 hm2 hv))
          go_roundg (rest.length - (k + 1))
          case measure => omega
          case rel =>
            refine ⟨k + 1, rfl, by omega, ?_, ?_⟩
            · rw [HREV.out]
              have hrc2 := (RCx.rep (RS.rep D)).keep (HM5.out.keep.weak (fun j _ (hj : w.heap.size ≤ j) => by have := HBP.out; omega)) HRC.out
              have hjb : joinB q.1 = 62 := by unfold joinB; rw [hjx]; rfl
              have := RCx_more (p := q) (by simp) hrc2 HV5.out
              rw [hjb] at this
              rw [HGX.out]
              exact this
            · rw [HN.out]; unfold wMore; rw [ej, List.length_append]
              exact HS5.out.cast (by rw [HP3.out, HP2.out, HP1.out]; simp; omega)
        · have ej : wJoin q.1 = [32, 43, 32] := by unfold wJoin; rw [if_neg hj32, hjx]; rfl
          have hap1 : At s p (32 :: 43 :: 32 :: c1 :: u1) := by have h := HAP.out; rw [ej, HCU.out] at h; exact h
          obtain ⟨p1, hp1⟩ : ∃ p1, p1 = p + 1 := ⟨_, rfl⟩
          obtain ⟨p2, hp2⟩ : ∃ p2, p2 = p1 + 1 := ⟨_, rfl⟩
          obtain ⟨p3, hp3⟩ : ∃ p3, p3 = p2 + 1 := ⟨_, rfl⟩
          have hap2 : At s p1 (43 :: 32 :: c1 :: u1) := by rw [hp1]; exact hap1.next
          have hap3 : At s p2 (32 :: c1 :: u1) := by rw [hp2]; exact hap2.next
          have hap4 : At s p3 (wParts wg q.2 ++ r') := by rw [hp3, HCU.out]; exact hap3.next
          have hlt1 := hap2.lt
          have hlt1i : (p1 : Int) < (s.size : Int) := by omega
          have hg1 := hap2.get
          have e43 : ((s[p1].toNat : Int) == 43) = true := by rw [hg1]; rfl
          have HGX := Lib.hid (show (s[p1].toNat : Int) = 43 by rw [hg1]; rfl)
          have HAP1 := Lib.hid hap1
          have HAP3 := Lib.hid hap3
          have HAP4 := Lib.hid hap4
          have HP1 := Lib.hid hp1
          have HP2 := Lib.hid hp2
          have HP3 := Lib.hid hp3
          clear hap1 hap2 hap3 hap4 hp1 hp2 hp3 hg1
          go_wp2_with (go_at_call 70; refine (skip_one _ bp s p d 43 (32 :: c1 :: u1) (by exact HS.out.ps) HAP1.out hs (by decide)).mono ?_; rintro e w' ⟨rfl, hp2, hm2⟩; rw [← HP1.out] at hp2; have HS3 := Lib.hid (HS.out.after hp2 hm2); have HM3 := Lib.hid hm2; clear hp2 hm2)
          have g0 := HS3.out.c0
          have g1 := HS3.out.c1
          have g2 := HS3.out.f1
          go_quiet (fail)
          go_wp2_with fail
          go_quiet (fail)
          go_wp2_with fail
          go_quiet (fail)
          go_wp2_with (first | (go_at_call 70; refine (skip_one _ bp s p2 d c1 u1 (by exact ((HS3.out.drewN _).setI p2 _ (by have := HP2.out; omega)).ps) HAP3.out hs (plain_ns HPL.out)).mono ?_; rintro e w' ⟨rfl, hp2, hm2⟩; rw [← HP3.out] at hp2; have HM4 := Lib.hid (((HM3.out.drewN _).setCell _ _).trans hm2); have HS4 := Lib.hid (((HS3.out.drewN _).setI p2 _ (by have := HP2.out; omega)).after hp2 hm2); clear hp2 hm2) | (go_at_call 71; refine (parseSeq_any D wg _ bp s p3 d q.2 _ (by exact HS4.out.ps) HAP4.out hs HQO.out HRS.out HW.out HG.out).mono ?_; rintro e w' ⟨v, rfl, hv, hp2, hm2⟩; obtain ⟨T, x, rfl⟩ := hv.val; have HV5 := Lib.hid ((RPs.rep (RS.rep D)).mono (fun k (hk : _ ≤ k) => Nat.le_trans HS4.out.mv.size hk) hv); have HM5 := Lib.hid (HM4.out.trans hm2); have HS5 := Lib.hid (HS4.out.after hp2 hm2); clear hp2 hm2 hv))
          go_roundg (rest.length - (k + 1))
          case measure => omega
          case rel =>
            refine ⟨k + 1, rfl, by omega, ?_, ?_⟩
            · rw [HREV.out]
              have hrc2 := (RCx.rep (RS.rep D)).keep (HM5.out.keep.weak (fun j _ (hj : w.heap.size ≤ j) => by have := HBP.out; omega)) HRC.out
              have hjb : joinB q.1 = 43 := by unfold joinB; rw [hjx]; rfl
              have := RCx_more (p := q) (by simp) hrc2 HV5.out
              rw [hjb] at this
              rw [HGX.out]
              exact this
            · rw [HN.out]; unfold wMore; rw [ej, List.length_append]
              exact HS5.out.cast (by rw [HP3.out, HP2.out, HP1.out]; simp; omega)
        · have ej : wJoin q.1 = [32, 126, 32] := by unfold wJoin; rw [if_neg hj32, hjx]; rfl
          have hap1 : At s p (32 :: 126 :: 32 :: c1 :: u1) := by have h := HAP.out; rw [ej, HCU.out] at h; exact h
          obtain ⟨p1, hp1⟩ : ∃ p1, p1 = p + 1 := ⟨_, rfl⟩
          obtain ⟨p2, hp2⟩ : ∃ p2, p2 = p1 + 1 := ⟨_, rfl⟩
          obtain ⟨p3, hp3⟩ : ∃ p3, p3 = p2 + 1 := ⟨_, rfl⟩
          have hap2 : At s p1 (126 :: 32 :: c1 :: u1) := by rw [hp1]; exact hap1.next
          have hap3 : At s p2 (32 :: c1 :: u1) := by rw [hp2]; exact hap2.next
          have hap4 : At s p3 (wParts wg q.2 ++ r') := by rw [hp3, HCU.out]; exact hap3.next
          have hlt1 := hap2.lt
          have hlt1i : (p1 : Int) < (s.size : Int) := by omega
          have hg1 := hap2.get
          have e43 : ((s[p1].toNat : Int) == 43) = false := by rw [hg1]; rfl
          have e62 : ((s[p1].toNat : Int) == 62) = false := by rw [hg1]; rfl
          have e126 : ((s[p1].toNat : Int) == 126) = true := by rw [hg1]; rfl
          have HGX := Lib.hid (show (s[p1].toNat : Int) = 126 by rw [hg1]; rfl)
          have HAP1 := Lib.hid hap1
          have HAP3 := Lib.hid hap3
          have HAP4 := Lib.hid hap4
          have HP1 := Lib.hid hp1
          have HP2 := Lib.hid hp2
          have HP3 := Lib.hid hp3
          clear hap1 hap2 hap3 hap4 hp1 hp2 hp3 hg1
          go_wp2_with (go_at_call 70; refine (skip_one _ bp s p d 126 (32 :: c1 :: u1) (by exact HS.out.ps) HAP1.out hs (by decide)).mono ?_; rintro e w' ⟨rfl, hp2, hm2⟩; rw [← HP1.out] at hp2; have HS3 := Lib.hid (HS.out.after hp2 hm2); have HM3 := Lib.hid hm2; clear hp2 hm2)
          have g0 := HS3.out.c0
          have g1 := HS3.out.c1
          have g2 := HS3.out.f1
          go_quiet (fail)
          go_wp2_with fail
          go_quiet (fail)
          go_wp2_with fail
          go_quiet (fail)
          go_wp2_with (first | (go_at_call 70; refine (skip_one _ bp s p2 d c1 u1 (by exact ((HS3.out.drewN _).setI p2 _ (by have := HP2.out; omega)).ps) HAP3.out hs (plain_ns HPL.out)).mono ?_; rintro e w' ⟨rfl, hp2, hm2⟩; rw [← HP3.out] at hp2; have HM4 := Lib.hid (((HM3.out.drewN _).setCell _ _).trans hm2); have HS4 := Lib.hid (((HS3.out.drewN _).setI p2 _ (by have := HP2.out; omega)).after hp2 hm2); clear hp2 hm2) | (go_at_call 71; refine (parseSeq_any D wg _ bp s p3 d q.2 _ (by exact HS4.out.ps) HAP4.out hs HQO.out HRS.out HW.out HG.out).mono ?_; rintro e w' ⟨v, rfl, hv, hp2, hm2⟩; obtain ⟨T, x, rfl⟩ := hv.val; have HV5 := Lib.hid ((RPs.rep (RS.rep D)).mono (fun k (hk : _ ≤ k) => Nat.le_trans HS4.out.mv.size hk) hv); have HM5 := Lib.hid (HM4.out.trans hm2); have HS5 := Lib.hid (HS4.out.after hp2 hm2); clear hp2 hm2 hv))
          go_roundg (rest.length - (k + 1))
          case measure => omega
          case rel =>
            refine ⟨k + 1, rfl, by omega, ?_, ?_⟩
            · rw [HREV.out]
              have hrc2 := (RCx.rep (RS.rep D)).keep (HM5.out.keep.weak (fun j _ (hj : w.heap.size ≤ j) => by have := HBP.out; omega)) HRC.out
              have hjb : joinB q.1 = 126 := by unfold joinB; rw [hjx]; rfl
              have := RCx_more (p := q) (by simp) hrc2 HV5.out
              rw [hjb] at this
              rw [HGX.out]
              exact this
            · rw [HN.out]; unfold wMore; rw [ej, List.length_append]
              exact HS5.out.cast (by rw [HP3.out, HP2.out, HP1.out]; simp; omega)
      --B]
    · --[C
      obtain rfl : k = rest.length := by omega
      have hap0 : At s p r := by rw [List.drop_length] at hap; exact hap
      have hpe : p = jend := by rw [HPP.out, List.take_length]; exact HJE.out.symm
      subst hpe
      have hrc : RCr (RS D) (fun k => w.heap.size ≤ k) wr (.iface T4 x4) (p0 :: rest) := by have h := HRC.out; rw [List.take_length] at h; exact h
      have HRR := Lib.hid hrc
      have HAP0 := Lib.hid hap0
      have hend := hap0.end0
      clear hrc hap0 hap
      rcases hend with ⟨hpe, hre⟩ | ⟨hplt, hph⟩
      · have hnl : ¬ ((p : Int) < (s.size : Int)) := by omega
        have hge : ((s.size : Int) ≤ (p : Int)) := by omega
        clear hpe hre
        go_wp2_with (go_at_call 70; refine (skip_none _ bp s p d r (by exact HS.out.ps) HAP0.out hs (stopX_ns HR.out)).mono ?_; rintro e w' ⟨rfl, hp2, hm2⟩; have HS3 := Lib.hid (HS.out.after hp2 hm2); have HM3 := Lib.hid hm2; clear hp2 hm2)
        have g0 := HS3.out.c0
        have g1 := HS3.out.c1
        go_quiet (fail)
        go_wp2_with fail
        go_ret2
        exact ⟨_, rfl, (RCr.rep (RS.rep D)).keep ((HM3.out.drewN _).keep.weak (fun j _ (hj : w.heap.size ≤ j) => by have := HBP.out; omega)) HRR.out, HS3.out.ps.drewN _, HS3.out.mv.drewN _⟩
      · have hplt1 : (p : Int) < (s.size : Int) := by omega
        have hst := HR.out _ hph
        unfold stopX at hst
        have e43 : ((s[p].toNat : Int) == 43) = false := by simp; omega
        have e62 : ((s[p].toNat : Int) == 62) = false := by simp; omega
        have e126 : ((s[p].toNat : Int) == 126) = false := by simp; omega
        clear hph
        by_cases h44 : s[p].toNat = 44
        · have e44 : ((s[p].toNat : Int) == 44) = true := by rw [h44]; rfl
          clear h44 hst
          go_wp2_with (go_at_call 70; refine (skip_none _ bp s p d r (by exact HS.out.ps) HAP0.out hs (stopX_ns HR.out)).mono ?_; rintro e w' ⟨rfl, hp2, hm2⟩; have HS3 := Lib.hid (HS.out.after hp2 hm2); have HM3 := Lib.hid hm2; clear hp2 hm2)
          have g0 := HS3.out.c0
          have g1 := HS3.out.c1
          go_quiet (fail)
          go_wp2_with fail
          go_quiet (fail)
          go_wp2_with fail
          go_ret2
          exact ⟨_, rfl, (RCr.rep (RS.rep D)).keep ((HM3.out.drewN _).keep.weak (fun j _ (hj : w.heap.size ≤ j) => by have := HBP.out; omega)) HRR.out, HS3.out.ps.drewN _, HS3.out.mv.drewN _⟩
        · have e44 : ((s[p].toNat : Int) == 44) = false := by simp; omega
          have e41 : ((s[p].toNat : Int) == 41) = true := by simp; omega
          clear h44 hst
          go_wp2_with (go_at_call 70; refine (skip_none _ bp s p d r (by exact HS.out.ps) HAP0.out hs (stopX_ns HR.out)).mono ?_; rintro e w' ⟨rfl, hp2, hm2⟩; have HS3 := Lib.hid (HS.out.after hp2 hm2); have HM3 := Lib.hid hm2; clear hp2 hm2)
          have g0 := HS3.out.c0
          have g1 := HS3.out.c1
          go_quiet (fail)
          go_wp2_with fail
          go_quiet (fail)
          go_wp2_with fail
          go_ret2
          exact ⟨_, rfl, (RCr.rep (RS.rep D)).keep ((HM3.out.drewN _).keep.weak (fun j _ (hj : w.heap.size ≤ j) => by have := HBP.out; omega)) HRR.out, HS3.out.ps.drewN _, HS3.out.mv.drewN _⟩
      --C]

end Go.Proofs.YteaapgijeehhfaaGreatDoor

namespace Go.Proofs.YteaapgijeehhfaaGreatDoor
open Go.RowKit

set_option maxRecDepth 100000 in
set_option maxHeartbeats 2000000 in
theorem depth_back (w : World) (bx bp : Nat) (s : ByteArray) (i d : Nat) (u : FrameMode) (hd : d ≤ 1000) (hp : PS w bp s i (d + 1)) (hx : w.cell? ⟨bx, 0, none⟩ = some (.pointer (some ⟨bp, 0, none⟩))) :
    CallsD Tryz.prog 58 #[.pointer (some ⟨bx, 0, none⟩)] u w fun e u' w' => u' = u ∧ (e = .returned (.tuple #[]) ∧ w' = w.setCell ⟨bp, 2, none⟩ (.int .i64 d)) := by
  have h2 := hp.c2
  have f2 := hp.f2
  have hdi : ((d + 1 : Nat) : Int) = (d : Int) + 1 := by omega
  rw [hdi] at h2
  clear hdi hp
  go_enter_d Tryz.func58, Tryz.ntmps58
  go_wp2_with fail
  first | go_end0 | refine bodyPost_end (results_none rfl _ _ _) rfl ?_ | refine bodyPost_ret (results_none rfl _ _ _) rfl ?_
  exact ⟨rfl, rfl⟩

theorem OwnRep.made1 {α : Type} {B : Nat} {e : TypeId} {bt : Nat} {E : (Nat → Prop) → World → List Value → α → Prop} (hE : ElemRep E) {W : World} {v : Value} {x : α} (hB : B ≤ W.heap.size) (hb : bt ≤ 140737488355328)
    (hx : E (fun k => B ≤ k) W [v] x) :
    OwnRep B e 1 bt E (W.alloc (.cells #[v] e)) (.slice (some ⟨W.heap.size, 0, none⟩) 1 1) [x] := by
  refine ⟨[[v]], rfl, by simp, ⟨?_, .inr ⟨W.heap.size, 1, #[v], rfl, hB, heap_alloc_new W _, ?_, ?_, ?_, ?_⟩⟩, by simpa using hb, ?_⟩
  · rfl
  · simp
  · simp [maxLen]
  · rfl
  · rfl
  · intro j h h'
    have hj : j = 0 := by simp at h; omega
    subst hj
    have hl := hE.lt hx
    have hk := hE.keep (w' := W.alloc (.cells #[v] e)) (KeepX.of_all ((Below.refl _ _).alloc (Nat.le_refl _) _)) hl
    refine hE.mono ?_ hk
    intro k hk
    refine ⟨hk.1, by simp; omega, fun e => ?_⟩
    simp [Value.ownBlock] at e
    omega

/-- A group's text: the first selector, and each one more behind a comma and, it may be, a blank. -/
def wItems (wg : Group → List UInt8) (c0 : Complex) (l : List (List UInt8 × Complex)) : List UInt8 := wCx wg c0 ++ l.flatMap (fun it => 44 :: (it.1 ++ wCx wg it.2))

theorem items_stop (wg : Group → List UInt8) (l : List (List UInt8 × Complex)) {r : List UInt8} (hr : headP stopX r) : headP stopX (l.flatMap (fun it => 44 :: (it.1 ++ wCx wg it.2)) ++ r) := by
  cases l with
  | nil => exact hr
  | cons it l => exact headP_cons (.inl rfl)

set_option maxRecDepth 100000 in
set_option maxHeartbeats 8000000 in
theorem parseItems_any (D : Nat) (wg : Group → List UInt8) (w : World) (bp : Nat) (s : ByteArray) (i d : Nat) (c0 : Complex) (l : List (List UInt8 × Complex)) (r : List UInt8) (hp : PS w bp s i d) (ha : At s i (wItems wg c0 l ++ r)) (hs : s.size ≤ 140737488351232)
    (hd : d ≤ 1000) (hc0 : okCx (okG D) c0) (hl : ∀ it ∈ l, (it.1 = [] ∨ it.1 = [32]) ∧ okCx (okG D) it.2) (hll : l.length ≤ 100) (hr : headP (fun c => c.toNat = 41) r)
    (hw : ∀ g, okG D g → ∀ r, noSkip (wg g ++ (41 :: r)))
    (hG : ∀ g, okG D g → ∀ W j r, PS W bp s j (d + 1) → At s j (wg g ++ (41 :: r)) → Calls Tryz.prog 52 #[.pointer (some ⟨bp, 0, none⟩)] W (GPost D g W bp s (j + (wg g).length) (d + 1))) :
    Calls Tryz.prog 52 #[.pointer (some ⟨bp, 0, none⟩)] w (GPost (D + 1) (c0 :: l.map Prod.snd) w bp s (i + (wItems wg c0 l).length) d) := by
  have HE := EV.rep (RCr.rep (RS.rep D))
  have hbp := hp.lt
  have HBP := Lib.hid hp.lt
  have hmf : ∀ (fn : Fn) (first cap : Array Value) (w : World), (Instr.makeFunc fn first cap).run Tryz.prog w = .ok (.func fn first cap) w := fun _ _ _ _ => rfl
  obtain ⟨i1, hi1⟩ : ∃ i1, i1 = i + (wCx wg c0).length := ⟨_, rfl⟩
  obtain ⟨jend, hje⟩ : ∃ jend, jend = i1 + (l.flatMap (fun it => 44 :: (it.1 ++ wCx wg it.2))).length := ⟨_, rfl⟩
  rw [show i + (wItems wg c0 l).length = jend by rw [hje, hi1]; unfold wItems; rw [List.length_append]; omega]
  have ha0 : At s i ([] ++ (wCx wg c0 ++ (l.flatMap (fun it => 44 :: (it.1 ++ wCx wg it.2)) ++ r))) := by have h := ha; unfold wItems at h; rw [List.append_assoc] at h; exact h
  have ha1 : At s i1 (l.flatMap (fun it => 44 :: (it.1 ++ wCx wg it.2)) ++ r) := by rw [hi1]; exact At.skip (wCx wg c0) ha0
  have hrx : headP stopX r := fun c hc => .inr (hr c hc)
  have HA0 := Lib.hid ha0
  have HA1 := Lib.hid ha1
  have HI1 := Lib.hid hi1
  have HJE := Lib.hid hje
  have HR := Lib.hid hr
  have HRX := Lib.hid hrx
  have HL := Lib.hid hl
  have HLL := Lib.hid hll
  have HC0 := Lib.hid hc0
  have HW := Lib.hid (fun g (h : okG D g) => hw g h)
  have HG := Lib.hid (fun g (h : okG D g) => hG g h)
  have hp1 := hp.alloc (.cells #[.pointer (some ⟨bp, 0, none⟩)] 113)
  have h2 := hp1.c2
  have f2 := hp1.f2
  have HP := Lib.hid hp
  have HP1 := Lib.hid hp1
  clear hp hp1 ha ha0 ha1 hi1 hje hr hrx hl hll hc0 hw hG
  go_enter_defers Tryz.func52, Tryz.ntmps52
  go_wp2_with fail
  obtain ⟨W0, hW0⟩ : ∃ W0 : World, W0 = (w.setCell ⟨bp, 2, none⟩ (.int .i64 ((d : Int) + 1))).alloc (.cells #[.pointer (some ⟨bp, 0, none⟩)] 113) := ⟨_, rfl⟩
  have hsz1 : (w.setCell ⟨bp, 2, none⟩ (.int .i64 ((d : Int) + 1))).heap.size = w.heap.size := by simp [World.setCell]
  have hsz0 : W0.heap.size = w.heap.size + 1 := by rw [hW0, ← hsz1]; simp
  have hbx : W0.heap[w.heap.size]? = some (.cells #[.pointer (some ⟨bp, 0, none⟩)] 113 (0, 0)) := by
    have h := heap_alloc_new (w.setCell ⟨bp, 2, none⟩ (.int .i64 ((d : Int) + 1))) (.cells #[.pointer (some ⟨bp, 0, none⟩)] 113)
    rw [hsz1] at h; rw [hW0]; exact h
  have hps0 : PS W0 bp s i (d + 1) := by rw [hW0]; exact (HP.out.setD (d + 1) _ (by omega)).alloc _
  have hmv0 : Mv bp w W0 := by rw [hW0]; exact ((Mv.refl bp w).setCell _ _).alloc _
  rw [← hW0]
  have HBX := Lib.hid hbx
  have HSD := Lib.hid (St.start hps0)
  have HM0 := Lib.hid hmv0
  have HBP0 := Lib.hid (show bp < W0.heap.size by omega)
  have hx0 := cell_of_heap hbx 0
  simp only [List.getElem?_toArray, List.getElem?_cons_zero] at hx0
  clear h2 f2 hps0 hmv0 hbx hW0 hsz1
  go_wp2_with (go_at_call 59; (refine (parseSel_any D wg _ bp s i (d + 1) [] c0 _ (by exact HSD.out.ps) HA0.out hs (.inl rfl) HC0.out (items_stop wg l HRX.out) HW.out HG.out).mono ?_; rintro e w' ⟨v, rfl, hv, hp2, hm2⟩; obtain ⟨T, x, rfl⟩ := RCx.val hv; rw [show i + ([] : List UInt8).length + (wCx wg c0).length = i1 by rw [HI1.out]; simp] at hp2; have HV := Lib.hid ((RCr.rep (RS.rep D)).mono (fun k (hk : _ ≤ k) => Nat.le_trans HSD.out.mv.size hk) hv); have HS1 := Lib.hid (HSD.out.after hp2 hm2); clear hp2 hm2 hv))
  have hst0 := HS1.out.alloc (.cells #[.iface T x] 119)
  have hrow0 : OwnRep W0.heap.size 119 1 16 (EV (RCr (RS D))) (w'.alloc (.cells #[.iface T x] 119)) (.slice (some ⟨w'.heap.size, 0, none⟩) 1 1) [c0] := OwnRep.made1 HE HS1.out.mv.size (by decide) ⟨_, rfl, rfl, HV.out⟩
  have HST0 := Lib.hid hst0
  have HROW0 := Lib.hid hrow0
  clear hst0 hrow0
  go_loopg [6] l.length (fun n v W => ∃ k : Nat, n = l.length - k ∧ k ≤ l.length ∧ OwnRep W0.heap.size 119 1 16 (EV (RCr (RS D))) W v (c0 :: (l.take k).map Prod.snd) ∧ St bp s (d + 1) W0 W (i1 + ((l.take k).flatMap (fun it => 44 :: (it.1 ++ wCx wg it.2))).length))
  case atStart => exact ⟨0, rfl, Nat.zero_le _, HROW0.out, HST0.out⟩
  case round =>
    obtain ⟨k, rfl, hk, hown, hst⟩ := hrel
    have hlk : (c0 :: (l.take k).map Prod.snd).length = k + 1 := by rw [List.length_cons, List.length_map, take_len hk]
    obtain ⟨va, vc, rfl⟩ := hown.val (k + 1) hlk
    obtain ⟨p, hp⟩ : ∃ p, p = i1 + ((l.take k).flatMap (fun it => 44 :: (it.1 ++ wCx wg it.2))).length := ⟨_, rfl⟩
    rw [← hp] at hst
    have hap : At s p ((l.drop k).flatMap (fun it => 44 :: (it.1 ++ wCx wg it.2)) ++ r) := by
      have h := HA1.out
      have e := List.flatMap_append (xs := l.take k) (ys := l.drop k) (f := fun it : List UInt8 × Complex => 44 :: (it.1 ++ wCx wg it.2))
      rw [List.take_append_drop] at e
      rw [e, List.append_assoc] at h
      rw [hp]; exact h.skip
    have g0 := hst.c0
    have g1 := hst.c1
    have g2 := hst.f1
    have hbx := hst.heap HBX.out (by have := HBP.out; omega)
    have x0 := cell_of_heap hbx 0
    simp only [List.getElem?_toArray, List.getElem?_cons_zero] at x0
    have hO := Lib.hid hown
    have HS := Lib.hid hst
    have HPP := Lib.hid hp
    have hl := Lib.hid hown.block_lt
    have HLK := Lib.hid hlk
    clear hown hst hp hlk hbx
    by_cases hlt : k < l.length
    · --[B
      obtain ⟨q, hq⟩ : ∃ q, l[k] = q := ⟨_, rfl⟩
      obtain ⟨hqs, hqo⟩ := HL.out q (by rw [← hq]; exact List.getElem_mem _)
      have hd' : l.drop k = q :: l.drop (k + 1) := by rw [List.drop_eq_getElem_cons hlt, hq]
      rw [hd', List.flatMap_cons] at hap
      have hap1 : At s p (44 :: (q.1 ++ (wCx wg q.2 ++ ((l.drop (k + 1)).flatMap (fun it => 44 :: (it.1 ++ wCx wg it.2)) ++ r)))) := by simpa using hap
      have hnext : i1 + ((l.take (k + 1)).flatMap (fun it => 44 :: (it.1 ++ wCx wg it.2))).length = p + 1 + q.1.length + (wCx wg q.2).length := by
        rw [← take_push hlt hq, List.flatMap_append, HPP.out, List.length_append]; simp; omega
      obtain ⟨p1, hp1⟩ : ∃ p1, p1 = p + 1 := ⟨_, rfl⟩
      have hap2 := hap1.next
      rw [← hp1] at hap2
      have hplt := hap1.lt
      have hplt1 : (p : Int) < (s.size : Int) := by omega
      have hpg := hap1.get
      have e44 : ((s[p].toNat : Int) != 44) = false := by rw [hpg]; rfl
      have hbt : (k + 1 + 1) * 16 ≤ 140737488355328 := by have := HLL.out; omega
      have HAP := Lib.hid hap2
      have HQ := Lib.hid hq
      have HQS := Lib.hid hqs
      have HQO := Lib.hid hqo
      have HN := Lib.hid hnext
      have HP1' := Lib.hid hp1
      clear hq hqs hqo hd' hap hap1 hap2 hnext hp1 hpg
      go_wp2_with fail
      go_quiet (fail)
      go_wp2_with fail
      go_quiet (fail)
      go_upto_region 15 with (go_at_call 59; refine (parseSel_any D wg _ bp s p1 (d + 1) q.1 q.2 _ (by exact ((HS.out.drewN _).setI p1 _ (by have := HP1'.out; omega)).ps) HAP.out hs HQS.out HQO.out (items_stop wg _ HRX.out) HW.out HG.out).mono ?_; rintro e w'' ⟨v, rfl, hv, hp2, hm2⟩; obtain ⟨T1, x1, rfl⟩ := RCx.val hv; have HM1 := Lib.hid ((((Mv.refl bp wr).drewN _).setCell 1 (.int .i64 ((p : Int) + 1))).trans hm2); have HV1 := Lib.hid hv; have HS2 := Lib.hid (((HS.out.drewN _).setI p1 _ (by have := HP1'.out; omega)).after hp2 hm2); clear hp2 hm2 hv)
      have hO2 := Lib.hid (OwnRep.mv HE hO.out HM1.out HBP0.out)
      clear g0 g1 g2 x0
      go_wp2_with (at_builtin; refine wpList_push HE W0.heap.size rfl (.tmp 68) (.tmp 70) 91 119 .nilIface 1 16 rfl Tryz.underlying91 info119 rfl (by decide) (by decide) (.slice va (k + 1) vc) (c0 :: (l.take k).map Prod.snd) [.iface T1 x1] q.2 ⟨w''.heap.size, 0, none⟩ rfl rfl rfl ?c1 (news_alloc w'' _ _) ?c3 ?c4 ?c5 ?c6 ?_)
      case c1 => intro u hu; simp at hu; subst hu; rfl
      case c3 => exact OwnRep.below HE ((Below.refl _ _).alloc (Nat.le_refl _) _) hO2.out
      case c4 =>
        refine ⟨_, rfl, rfl, ?_⟩
        refine (RCr.rep (RS.rep D)).mono ?_ ((RCr.rep (RS.rep D)).keep (KeepX.of_all ((Below.refl _ _).alloc (Nat.le_refl _) _)) HV1.out)
        intro j hj
        have hj' : wr.heap.size ≤ j := by simpa [World.setCell] using hj
        refine ⟨Nat.le_trans HS.out.mv.size hj', fun e => ?_⟩
        have := (hl.out j e.symm).2
        omega
      case c5 => have := HS2.out.mv.size; simp; omega
      case c6 => rw [HLK.out]; exact hbt
      · intro gg cap4 w1 hO3 hG hat hgl
        have hO3 := Lib.hid hO3
        have HS3 := Lib.hid ((HS2.out.alloc _).grown hG HBP0.out (fun j hj => (hl.out j hj).1))
        clear hG hat
        go_wp2_with fail
        go_roundg (l.length - (k + 1))
        case measure => omega
        case rel => exact ⟨k + 1, rfl, by omega, by have h := hO3.out; rw [← take_push hlt HQ.out, List.map_append, List.map_take, hsz0]; exact h, by rw [HN.out, ← HP1'.out]; exact HS3.out⟩
      --B]
    · --[C
      obtain rfl : k = l.length := by omega
      have hap0 : At s p r := by rw [List.drop_length] at hap; exact hap
      have hpe : p = jend := by rw [HPP.out, List.take_length]; exact HJE.out.symm
      subst hpe
      have hown : OwnRep W0.heap.size 119 1 16 (EV (RCr (RS D))) wr (.slice va (l.length + 1) vc) (c0 :: l.map Prod.snd) := by have h := hO.out; rwa [List.take_length] at h
      have hsl := hown.slice HE
      have HSL := Lib.hid ((SlX.rep HE (by omega)).mono (fun j (hj : W0.heap.size ≤ j) => (show w.heap.size ≤ j by omega)) hsl)
      have hend := hap0.end0
      have hm4 : l.length + 1 ≤ 140737488355328 := by have := HLL.out; omega
      clear hown hsl hap0 hap hk hlt
      rcases hend with ⟨hpe, hre⟩ | ⟨hplt, hph⟩
      · have hnl : ¬ ((p : Int) < (s.size : Int)) := by omega
        clear hpe hre
        go_wp2_with fail
        go_quiet (fail)
        go_wp2_with fail
        refine leaves_cons (f := 58) (args := #[.pointer (some ⟨w.heap.size, 0, none⟩)]) (by simp) (by simp [go_sem]) ?_
        refine (depth_back _ w.heap.size bp s p d .returning hd (HS.out.ps.drewN _) x0).mono ?_
        rintro e u' w'' ⟨rfl, rfl, rfl⟩
        refine ⟨.tuple #[.slice va (l.length + 1) vc, .nilIface], by simp [results, Tryz.results52, go_sem], _, rfl, ?_, (HS.out.ps.drewN _).setD _ _ rfl, (HM0.out.trans (HS.out.mv.drewN _)).setCell _ _⟩
        exact (RS.rep (D + 1)).keep (w := wr) (fun j _ (hj : w.heap.size ≤ j) => Below.heap_setCell _ _ _ _ (by show j ≠ bp; have := HBP.out; omega)) HSL.out
      · have hplt1 : (p : Int) < (s.size : Int) := by omega
        have hst := HR.out _ hph
        have e44 : ((s[p].toNat : Int) != 44) = true := by rw [show s[p].toNat = 41 from hst]; rfl
        clear hph hst
        go_wp2_with fail
        go_quiet (fail)
        go_wp2_with fail
        go_quiet (fail)
        go_wp2_with fail
        refine leaves_cons (f := 58) (args := #[.pointer (some ⟨w.heap.size, 0, none⟩)]) (by simp) (by simp [go_sem]) ?_
        refine (depth_back _ w.heap.size bp s p d .returning hd ((HS.out.ps.drewN _).drewN _) x0).mono ?_
        rintro e u' w'' ⟨rfl, rfl, rfl⟩
        refine ⟨.tuple #[.slice va (l.length + 1) vc, .nilIface], by simp [results, Tryz.results52, go_sem], _, rfl, ?_, ((HS.out.ps.drewN _).drewN _).setD _ _ rfl, (HM0.out.trans ((HS.out.mv.drewN _).drewN _)).setCell _ _⟩
        exact (RS.rep (D + 1)).keep (w := wr) (fun j _ (hj : w.heap.size ≤ j) => Below.heap_setCell _ _ _ _ (by show j ≠ bp; have := HBP.out; omega)) HSL.out
      --C]

end Go.Proofs.YteaapgijeehhfaaGreatDoor
