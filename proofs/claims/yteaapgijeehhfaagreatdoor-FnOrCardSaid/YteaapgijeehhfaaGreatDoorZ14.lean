/- The parser reads how a count is asked; printed by gennthall.py. -/
/- The parser reads a pseudo-class that counts; printed by genpn.py. -/
/- The parser reads ':not(..)' and ':has(..)'; printed by genrel.py. -/
import Derived.Test.YteaapgijeehhfaaGreatDoorZ09
import Derived.Test.YteaapgijeehhfaaGreatDoorZ10
import Derived.Test.YteaapgijeehhfaaGreatDoorZ11
import Derived.Test.YteaapgijeehhfaaGreatDoorZ12
import Derived.Test.YteaapgijeehhfaaGreatDoorZ13
namespace Go.Proofs.YteaapgijeehhfaaGreatDoor
open Go.RowKit

theorem fig_nat (n : Nat) (h : n ≤ 9) : figC (UInt8.ofNat (48 + n)) ∧ ((UInt8.ofNat (48 + n)).toNat : Int) - 48 = n := by
  have e : (UInt8.ofNat (48 + n)).toNat = 48 + n := by simp; omega
  unfold figC; rw [e]; omega

theorem parseNth_any (w : World) (bp : Nat) (s : ByteArray) (i d : Nat) (a b : Int) (r : List UInt8) (hp : PS w bp s i d) (ha : At s i (countL a b ++ (41 :: r))) (hs : s.size ≤ 140737488351232)
    (ha1 : -9 ≤ a) (ha2 : a ≤ 9) (hb1 : -9 ≤ b) (hb2 : b ≤ 9) :
    Calls Tryz.prog 94 #[.pointer (some ⟨bp, 0, none⟩)] w (PPost w bp s (i + (countL a b).length) d (.tuple #[.int .i64 a, .int .i64 b, .nilIface])) := by
  have hcase : a = -9 ∨ a = -8 ∨ a = -7 ∨ a = -6 ∨ a = -5 ∨ a = -4 ∨ a = -3 ∨ a = -2 ∨ a = -1 ∨ a = 0 ∨ a = 1 ∨ a = 2 ∨ a = 3 ∨ a = 4 ∨ a = 5 ∨ a = 6 ∨ a = 7 ∨ a = 8 ∨ a = 9 := by omega
  by_cases hb : b < 0
  · obtain ⟨hc, hv⟩ := fig_nat (-b).toNat (by omega)
    rcases hcase with rfl | rfl | rfl | rfl | rfl | rfl | rfl | rfl | rfl | rfl | rfl | rfl | rfl | rfl | rfl | rfl | rfl | rfl | rfl
    · have e : countL (-9) b = [45, 57, 110, 45, UInt8.ofNat (48 + (-b).toNat)] := by simp [countL, decL, hb]
      have e2 : (-(((-b).toNat : Nat) : Int)) = b := by omega
      rw [e] at ha ⊢
      have := nth_m9m w bp s i d _ _ r hp (by simpa using ha) hs hc hv
      rw [e2] at this
      exact this
    · have e : countL (-8) b = [45, 56, 110, 45, UInt8.ofNat (48 + (-b).toNat)] := by simp [countL, decL, hb]
      have e2 : (-(((-b).toNat : Nat) : Int)) = b := by omega
      rw [e] at ha ⊢
      have := nth_m8m w bp s i d _ _ r hp (by simpa using ha) hs hc hv
      rw [e2] at this
      exact this
    · have e : countL (-7) b = [45, 55, 110, 45, UInt8.ofNat (48 + (-b).toNat)] := by simp [countL, decL, hb]
      have e2 : (-(((-b).toNat : Nat) : Int)) = b := by omega
      rw [e] at ha ⊢
      have := nth_m7m w bp s i d _ _ r hp (by simpa using ha) hs hc hv
      rw [e2] at this
      exact this
    · have e : countL (-6) b = [45, 54, 110, 45, UInt8.ofNat (48 + (-b).toNat)] := by simp [countL, decL, hb]
      have e2 : (-(((-b).toNat : Nat) : Int)) = b := by omega
      rw [e] at ha ⊢
      have := nth_m6m w bp s i d _ _ r hp (by simpa using ha) hs hc hv
      rw [e2] at this
      exact this
    · have e : countL (-5) b = [45, 53, 110, 45, UInt8.ofNat (48 + (-b).toNat)] := by simp [countL, decL, hb]
      have e2 : (-(((-b).toNat : Nat) : Int)) = b := by omega
      rw [e] at ha ⊢
      have := nth_m5m w bp s i d _ _ r hp (by simpa using ha) hs hc hv
      rw [e2] at this
      exact this
    · have e : countL (-4) b = [45, 52, 110, 45, UInt8.ofNat (48 + (-b).toNat)] := by simp [countL, decL, hb]
      have e2 : (-(((-b).toNat : Nat) : Int)) = b := by omega
      rw [e] at ha ⊢
      have := nth_m4m w bp s i d _ _ r hp (by simpa using ha) hs hc hv
      rw [e2] at this
      exact this
    · have e : countL (-3) b = [45, 51, 110, 45, UInt8.ofNat (48 + (-b).toNat)] := by simp [countL, decL, hb]
      have e2 : (-(((-b).toNat : Nat) : Int)) = b := by omega
      rw [e] at ha ⊢
      have := nth_m3m w bp s i d _ _ r hp (by simpa using ha) hs hc hv
      rw [e2] at this
      exact this
    · have e : countL (-2) b = [45, 50, 110, 45, UInt8.ofNat (48 + (-b).toNat)] := by simp [countL, decL, hb]
      have e2 : (-(((-b).toNat : Nat) : Int)) = b := by omega
      rw [e] at ha ⊢
      have := nth_m2m w bp s i d _ _ r hp (by simpa using ha) hs hc hv
      rw [e2] at this
      exact this
    · have e : countL (-1) b = [45, 49, 110, 45, UInt8.ofNat (48 + (-b).toNat)] := by simp [countL, decL, hb]
      have e2 : (-(((-b).toNat : Nat) : Int)) = b := by omega
      rw [e] at ha ⊢
      have := nth_m1m w bp s i d _ _ r hp (by simpa using ha) hs hc hv
      rw [e2] at this
      exact this
    · have e : countL (0) b = [48, 110, 45, UInt8.ofNat (48 + (-b).toNat)] := by simp [countL, decL, hb]
      have e2 : (-(((-b).toNat : Nat) : Int)) = b := by omega
      rw [e] at ha ⊢
      have := nth_p0m w bp s i d _ _ r hp (by simpa using ha) hs hc hv
      rw [e2] at this
      exact this
    · have e : countL (1) b = [49, 110, 45, UInt8.ofNat (48 + (-b).toNat)] := by simp [countL, decL, hb]
      have e2 : (-(((-b).toNat : Nat) : Int)) = b := by omega
      rw [e] at ha ⊢
      have := nth_p1m w bp s i d _ _ r hp (by simpa using ha) hs hc hv
      rw [e2] at this
      exact this
    · have e : countL (2) b = [50, 110, 45, UInt8.ofNat (48 + (-b).toNat)] := by simp [countL, decL, hb]
      have e2 : (-(((-b).toNat : Nat) : Int)) = b := by omega
      rw [e] at ha ⊢
      have := nth_p2m w bp s i d _ _ r hp (by simpa using ha) hs hc hv
      rw [e2] at this
      exact this
    · have e : countL (3) b = [51, 110, 45, UInt8.ofNat (48 + (-b).toNat)] := by simp [countL, decL, hb]
      have e2 : (-(((-b).toNat : Nat) : Int)) = b := by omega
      rw [e] at ha ⊢
      have := nth_p3m w bp s i d _ _ r hp (by simpa using ha) hs hc hv
      rw [e2] at this
      exact this
    · have e : countL (4) b = [52, 110, 45, UInt8.ofNat (48 + (-b).toNat)] := by simp [countL, decL, hb]
      have e2 : (-(((-b).toNat : Nat) : Int)) = b := by omega
      rw [e] at ha ⊢
      have := nth_p4m w bp s i d _ _ r hp (by simpa using ha) hs hc hv
      rw [e2] at this
      exact this
    · have e : countL (5) b = [53, 110, 45, UInt8.ofNat (48 + (-b).toNat)] := by simp [countL, decL, hb]
      have e2 : (-(((-b).toNat : Nat) : Int)) = b := by omega
      rw [e] at ha ⊢
      have := nth_p5m w bp s i d _ _ r hp (by simpa using ha) hs hc hv
      rw [e2] at this
      exact this
    · have e : countL (6) b = [54, 110, 45, UInt8.ofNat (48 + (-b).toNat)] := by simp [countL, decL, hb]
      have e2 : (-(((-b).toNat : Nat) : Int)) = b := by omega
      rw [e] at ha ⊢
      have := nth_p6m w bp s i d _ _ r hp (by simpa using ha) hs hc hv
      rw [e2] at this
      exact this
    · have e : countL (7) b = [55, 110, 45, UInt8.ofNat (48 + (-b).toNat)] := by simp [countL, decL, hb]
      have e2 : (-(((-b).toNat : Nat) : Int)) = b := by omega
      rw [e] at ha ⊢
      have := nth_p7m w bp s i d _ _ r hp (by simpa using ha) hs hc hv
      rw [e2] at this
      exact this
    · have e : countL (8) b = [56, 110, 45, UInt8.ofNat (48 + (-b).toNat)] := by simp [countL, decL, hb]
      have e2 : (-(((-b).toNat : Nat) : Int)) = b := by omega
      rw [e] at ha ⊢
      have := nth_p8m w bp s i d _ _ r hp (by simpa using ha) hs hc hv
      rw [e2] at this
      exact this
    · have e : countL (9) b = [57, 110, 45, UInt8.ofNat (48 + (-b).toNat)] := by simp [countL, decL, hb]
      have e2 : (-(((-b).toNat : Nat) : Int)) = b := by omega
      rw [e] at ha ⊢
      have := nth_p9m w bp s i d _ _ r hp (by simpa using ha) hs hc hv
      rw [e2] at this
      exact this
  · obtain ⟨hc, hv⟩ := fig_nat b.toNat (by omega)
    rcases hcase with rfl | rfl | rfl | rfl | rfl | rfl | rfl | rfl | rfl | rfl | rfl | rfl | rfl | rfl | rfl | rfl | rfl | rfl | rfl
    · have e : countL (-9) b = [45, 57, 110, 43, UInt8.ofNat (48 + b.toNat)] := by simp [countL, decL, hb]
      have e2 : ((b.toNat : Nat) : Int) = b := by omega
      rw [e] at ha ⊢
      have := nth_m9p w bp s i d _ _ r hp (by simpa using ha) hs hc hv
      rw [e2] at this
      exact this
    · have e : countL (-8) b = [45, 56, 110, 43, UInt8.ofNat (48 + b.toNat)] := by simp [countL, decL, hb]
      have e2 : ((b.toNat : Nat) : Int) = b := by omega
      rw [e] at ha ⊢
      have := nth_m8p w bp s i d _ _ r hp (by simpa using ha) hs hc hv
      rw [e2] at this
      exact this
    · have e : countL (-7) b = [45, 55, 110, 43, UInt8.ofNat (48 + b.toNat)] := by simp [countL, decL, hb]
      have e2 : ((b.toNat : Nat) : Int) = b := by omega
      rw [e] at ha ⊢
      have := nth_m7p w bp s i d _ _ r hp (by simpa using ha) hs hc hv
      rw [e2] at this
      exact this
    · have e : countL (-6) b = [45, 54, 110, 43, UInt8.ofNat (48 + b.toNat)] := by simp [countL, decL, hb]
      have e2 : ((b.toNat : Nat) : Int) = b := by omega
      rw [e] at ha ⊢
      have := nth_m6p w bp s i d _ _ r hp (by simpa using ha) hs hc hv
      rw [e2] at this
      exact this
    · have e : countL (-5) b = [45, 53, 110, 43, UInt8.ofNat (48 + b.toNat)] := by simp [countL, decL, hb]
      have e2 : ((b.toNat : Nat) : Int) = b := by omega
      rw [e] at ha ⊢
      have := nth_m5p w bp s i d _ _ r hp (by simpa using ha) hs hc hv
      rw [e2] at this
      exact this
    · have e : countL (-4) b = [45, 52, 110, 43, UInt8.ofNat (48 + b.toNat)] := by simp [countL, decL, hb]
      have e2 : ((b.toNat : Nat) : Int) = b := by omega
      rw [e] at ha ⊢
      have := nth_m4p w bp s i d _ _ r hp (by simpa using ha) hs hc hv
      rw [e2] at this
      exact this
    · have e : countL (-3) b = [45, 51, 110, 43, UInt8.ofNat (48 + b.toNat)] := by simp [countL, decL, hb]
      have e2 : ((b.toNat : Nat) : Int) = b := by omega
      rw [e] at ha ⊢
      have := nth_m3p w bp s i d _ _ r hp (by simpa using ha) hs hc hv
      rw [e2] at this
      exact this
    · have e : countL (-2) b = [45, 50, 110, 43, UInt8.ofNat (48 + b.toNat)] := by simp [countL, decL, hb]
      have e2 : ((b.toNat : Nat) : Int) = b := by omega
      rw [e] at ha ⊢
      have := nth_m2p w bp s i d _ _ r hp (by simpa using ha) hs hc hv
      rw [e2] at this
      exact this
    · have e : countL (-1) b = [45, 49, 110, 43, UInt8.ofNat (48 + b.toNat)] := by simp [countL, decL, hb]
      have e2 : ((b.toNat : Nat) : Int) = b := by omega
      rw [e] at ha ⊢
      have := nth_m1p w bp s i d _ _ r hp (by simpa using ha) hs hc hv
      rw [e2] at this
      exact this
    · have e : countL (0) b = [48, 110, 43, UInt8.ofNat (48 + b.toNat)] := by simp [countL, decL, hb]
      have e2 : ((b.toNat : Nat) : Int) = b := by omega
      rw [e] at ha ⊢
      have := nth_p0p w bp s i d _ _ r hp (by simpa using ha) hs hc hv
      rw [e2] at this
      exact this
    · have e : countL (1) b = [49, 110, 43, UInt8.ofNat (48 + b.toNat)] := by simp [countL, decL, hb]
      have e2 : ((b.toNat : Nat) : Int) = b := by omega
      rw [e] at ha ⊢
      have := nth_p1p w bp s i d _ _ r hp (by simpa using ha) hs hc hv
      rw [e2] at this
      exact this
    · have e : countL (2) b = [50, 110, 43, UInt8.ofNat (48 + b.toNat)] := by simp [countL, decL, hb]
      have e2 : ((b.toNat : Nat) : Int) = b := by omega
      rw [e] at ha ⊢
      have := nth_p2p w bp s i d _ _ r hp (by simpa using ha) hs hc hv
      rw [e2] at this
      exact this
    · have e : countL (3) b = [51, 110, 43, UInt8.ofNat (48 + b.toNat)] := by simp [countL, decL, hb]
      have e2 : ((b.toNat : Nat) : Int) = b := by omega
      rw [e] at ha ⊢
      have := nth_p3p w bp s i d _ _ r hp (by simpa using ha) hs hc hv
      rw [e2] at this
      exact this
    · have e : countL (4) b = [52, 110, 43, UInt8.ofNat (48 + b.toNat)] := by simp [countL, decL, hb]
      have e2 : ((b.toNat : Nat) : Int) = b := by omega
      rw [e] at ha ⊢
      have := nth_p4p w bp s i d _ _ r hp (by simpa using ha) hs hc hv
      rw [e2] at this
      exact this
    · have e : countL (5) b = [53, 110, 43, UInt8.ofNat (48 + b.toNat)] := by simp [countL, decL, hb]
      have e2 : ((b.toNat : Nat) : Int) = b := by omega
      rw [e] at ha ⊢
      have := nth_p5p w bp s i d _ _ r hp (by simpa using ha) hs hc hv
      rw [e2] at this
      exact this
    · have e : countL (6) b = [54, 110, 43, UInt8.ofNat (48 + b.toNat)] := by simp [countL, decL, hb]
      have e2 : ((b.toNat : Nat) : Int) = b := by omega
      rw [e] at ha ⊢
      have := nth_p6p w bp s i d _ _ r hp (by simpa using ha) hs hc hv
      rw [e2] at this
      exact this
    · have e : countL (7) b = [55, 110, 43, UInt8.ofNat (48 + b.toNat)] := by simp [countL, decL, hb]
      have e2 : ((b.toNat : Nat) : Int) = b := by omega
      rw [e] at ha ⊢
      have := nth_p7p w bp s i d _ _ r hp (by simpa using ha) hs hc hv
      rw [e2] at this
      exact this
    · have e : countL (8) b = [56, 110, 43, UInt8.ofNat (48 + b.toNat)] := by simp [countL, decL, hb]
      have e2 : ((b.toNat : Nat) : Int) = b := by omega
      rw [e] at ha ⊢
      have := nth_p8p w bp s i d _ _ r hp (by simpa using ha) hs hc hv
      rw [e2] at this
      exact this
    · have e : countL (9) b = [57, 110, 43, UInt8.ofNat (48 + b.toNat)] := by simp [countL, decL, hb]
      have e2 : ((b.toNat : Nat) : Int) = b := by omega
      rw [e] at ha ⊢
      have := nth_p9p w bp s i d _ _ r hp (by simpa using ha) hs hc hv
      rw [e2] at this
      exact this

theorem count_head (a b : Int) (ha1 : -9 ≤ a) (ha2 : a ≤ 9) : ∃ c t, countL a b = c :: t ∧ c.toNat ≠ 32 ∧ c.toNat ≠ 9 ∧ c.toNat ≠ 10 ∧ c.toNat ≠ 12 ∧ c.toNat ≠ 13 ∧ c.toNat ≠ 47 := by
  unfold countL decL
  by_cases h : a < 0
  · rw [if_pos h]; exact ⟨45, _, rfl, by decide⟩
  · rw [if_neg h]
    refine ⟨UInt8.ofNat (48 + a.toNat), _, rfl, ?_⟩
    have := (fig_nat a.toNat (by omega)).1
    unfold figC at this; omega

end Go.Proofs.YteaapgijeehhfaaGreatDoor

namespace Go.Proofs.YteaapgijeehhfaaGreatDoor
open Go.RowKit

theorem paren_open_any (w : World) (bp : Nat) (s : ByteArray) (i d : Nat) (r : List UInt8) (hp : PS w bp s i d) (ha : At s i (40 :: r)) (hs : s.size ≤ 140737488351232)
    (hr : ∃ c t, r = c :: t ∧ c.toNat ≠ 32 ∧ c.toNat ≠ 9 ∧ c.toNat ≠ 10 ∧ c.toNat ≠ 12 ∧ c.toNat ≠ 13 ∧ c.toNat ≠ 47) :
    Calls Tryz.prog 91 #[.pointer (some ⟨bp, 0, none⟩)] w (PPost w bp s (i + 1) d (.bool true)) := by
  obtain ⟨c, t, rfl, h⟩ := hr
  exact paren_open w bp s i d c t hp ha hs h

set_option maxRecDepth 100000 in
set_option maxHeartbeats 4000000 in
theorem pn_nc (w : World) (bp : Nat) (s : ByteArray) (i d : Nat) (a b : Int) (r : List UInt8) (hp : PS w bp s i d) (ha : At s i (58 :: ([110, 116, 104, 45, 99, 104, 105, 108, 100] ++ (40 :: (countL a b ++ (41 :: r)))))) (hs : s.size ≤ 140737488351232)
    (hr : -9 ≤ a ∧ a ≤ 9 ∧ -9 ≤ b ∧ b ≤ 9) :
    Calls Tryz.prog 83 #[.pointer (some ⟨bp, 0, none⟩)] w (PPost w bp s (i + 11 + (countL a b).length + 1) d (.tuple #[.iface 185 (.agg #[.int .i64 a, .int .i64 b, .bool false, .bool false]), .string ⟨#[]⟩, .nilIface])) := by
  obtain ⟨q2, hq2⟩ : ∃ q2, q2 = i + 1 + ([110, 116, 104, 45, 99, 104, 105, 108, 100] : List UInt8).length := ⟨_, rfl⟩
  have ha2 : At s q2 (40 :: (countL a b ++ (41 :: r))) := by rw [hq2]; exact ha.next.skip
  obtain ⟨q3, hq3⟩ : ∃ q3, q3 = q2 + 1 + (countL a b).length := ⟨_, rfl⟩
  have ha3 : At s q3 (41 :: r) := by rw [hq3]; exact ha2.next.skip
  have hend : i + 11 + (countL a b).length + 1 = q3 + 1 := by rw [hq3, hq2]; simp only [List.length_cons, List.length_nil]; try omega
  rw [hend]
  have HOP := Lib.hid (show ∃ c t, countL a b ++ (41 :: r) = c :: t ∧ c.toNat ≠ 32 ∧ c.toNat ≠ 9 ∧ c.toNat ≠ 10 ∧ c.toNat ≠ 12 ∧ c.toNat ≠ 13 ∧ c.toNat ≠ 47 by obtain ⟨c, t, e, h⟩ := count_head a b hr.1 hr.2.1; exact ⟨c, t ++ (41 :: r), by rw [e]; rfl, h⟩)
  have HA2 := Lib.hid ha2
  have HA3 := Lib.hid ha3
  have HE2 := Lib.hid hq2
  have HE3 := Lib.hid hq3
  clear ha2 ha3 hq2 hq3 hend
  have h0 := hp.c0
  have h1 := hp.c1
  have f1 := hp.f1
  have hlt0 := ha.lt
  have hlt1 : (i : Int) < (s.size : Int) := by omega
  have hg0 := ha.get
  have e0 : ((s[i].toNat : Int) != 58) = false := by rw [hg0]; rfl
  obtain ⟨q, hq⟩ : ∃ q, q = i + 1 := ⟨_, rfl⟩
  have haq : At s q ([110, 116, 104, 45, 99, 104, 105, 108, 100] ++ (40 :: (countL a b ++ (41 :: r)))) := by rw [hq]; exact ha.next
  have hqlt := At.lt (c := 110) (r := _) haq
  have hqlt1 : (q : Int) < (s.size : Int) := by omega
  have hgq := At.get (c := 110) (r := _) haq
  have e1 : ((s[q].toNat : Int) == 58) = false := by rw [hgq]; rfl
  have HQ0 := Lib.hid (St.start hp)
  have HAQ := Lib.hid haq
  have HNQ := Lib.hid hq
  have HR := Lib.hid hr
  clear ha haq hg0 hgq hp hr hq
  go_enter Tryz.func83, Tryz.ntmps83
  go_wp2_with fail
  go_quiet (fail)
  go_wp2_with fail
  go_quiet (fail)
  go_wp2_with fail
  refine st_goal ((HQ0.out.drewN _).setI q _ (by have := HNQ.out; omega)) (fun W hst => ?_)
  have HQQ := Lib.hid hst
  have g0 := hst.c0
  have g1 := hst.c1
  have g2 := hst.f1
  clear hst h0 h1 f1
  go_quiet (fail)
  go_wp2_with fail
  go_quiet (fail)
  go_wp2_with (first | (go_at_call 87; refine (parseIdent_lit _ bp s q d [110, 116, 104, 45, 99, 104, 105, 108, 100] _ ⟨#[110, 116, 104, 45, 99, 104, 105, 108, 100]⟩ rfl (by exact (HQQ.out.drewN _).ps) HAQ.out hs (by decide) (by decide) (headP_cons (by simp [stopC]))).mono ?_; rintro e w' ⟨rfl, hp2, hm2⟩; rw [show q + ([110, 116, 104, 45, 99, 104, 105, 108, 100] : List UInt8).length = q2 by rw [HE2.out, HNQ.out]] at hp2; have HQ2 := Lib.hid ((HQQ.out.drewN _).after hp2 hm2); clear hp2 hm2) | (go_at_call 88; refine (lower_lit [110, 116, 104, 45, 99, 104, 105, 108, 100] ⟨#[110, 116, 104, 45, 99, 104, 105, 108, 100]⟩ rfl _ (by decide) (by decide)).mono ?_; rintro e w'' ⟨rfl, rfl⟩) | (go_at_call 91; refine (paren_open_any _ bp s q2 d _ HQ2.out.ps HA2.out hs HOP.out).mono ?_; rintro e w' ⟨rfl, hp2, hm2⟩; have HQ3 := Lib.hid (HQ2.out.after hp2 hm2); clear hp2 hm2) | (go_at_call 94; refine (parseNth_any _ bp s (q2 + 1) d a b r HQ3.out.ps HA2.out.next hs HR.out.1 HR.out.2.1 HR.out.2.2.1 HR.out.2.2.2).mono ?_; rintro e w' ⟨rfl, hp2, hm2⟩; rw [← HE3.out] at hp2; have HQ4 := Lib.hid (HQ3.out.after hp2 hm2); clear hp2 hm2) | (go_at_call 92; refine (paren_close _ bp s q3 d r HQ4.out.ps HA3.out hs).mono ?_; rintro e w' ⟨rfl, hp2, hm2⟩; have HQ5 := Lib.hid (HQ4.out.after hp2 hm2); clear hp2 hm2))
  exact bodyPost_ret (v := .tuple #[.iface 185 (.agg #[.int .i64 a, .int .i64 b, .bool false, .bool false]), .string ⟨#[]⟩, .nilIface]) (by simp [results, Tryz.results83, go_sem]) rfl (HQ5.out.post _)

set_option maxRecDepth 100000 in
set_option maxHeartbeats 4000000 in
theorem pn_nlc (w : World) (bp : Nat) (s : ByteArray) (i d : Nat) (a b : Int) (r : List UInt8) (hp : PS w bp s i d) (ha : At s i (58 :: ([110, 116, 104, 45, 108, 97, 115, 116, 45, 99, 104, 105, 108, 100] ++ (40 :: (countL a b ++ (41 :: r)))))) (hs : s.size ≤ 140737488351232)
    (hr : -9 ≤ a ∧ a ≤ 9 ∧ -9 ≤ b ∧ b ≤ 9) :
    Calls Tryz.prog 83 #[.pointer (some ⟨bp, 0, none⟩)] w (PPost w bp s (i + 16 + (countL a b).length + 1) d (.tuple #[.iface 185 (.agg #[.int .i64 a, .int .i64 b, .bool true, .bool false]), .string ⟨#[]⟩, .nilIface])) := by
  obtain ⟨q2, hq2⟩ : ∃ q2, q2 = i + 1 + ([110, 116, 104, 45, 108, 97, 115, 116, 45, 99, 104, 105, 108, 100] : List UInt8).length := ⟨_, rfl⟩
  have ha2 : At s q2 (40 :: (countL a b ++ (41 :: r))) := by rw [hq2]; exact ha.next.skip
  obtain ⟨q3, hq3⟩ : ∃ q3, q3 = q2 + 1 + (countL a b).length := ⟨_, rfl⟩
  have ha3 : At s q3 (41 :: r) := by rw [hq3]; exact ha2.next.skip
  have hend : i + 16 + (countL a b).length + 1 = q3 + 1 := by rw [hq3, hq2]; simp only [List.length_cons, List.length_nil]; try omega
  rw [hend]
  have HOP := Lib.hid (show ∃ c t, countL a b ++ (41 :: r) = c :: t ∧ c.toNat ≠ 32 ∧ c.toNat ≠ 9 ∧ c.toNat ≠ 10 ∧ c.toNat ≠ 12 ∧ c.toNat ≠ 13 ∧ c.toNat ≠ 47 by obtain ⟨c, t, e, h⟩ := count_head a b hr.1 hr.2.1; exact ⟨c, t ++ (41 :: r), by rw [e]; rfl, h⟩)
  have HA2 := Lib.hid ha2
  have HA3 := Lib.hid ha3
  have HE2 := Lib.hid hq2
  have HE3 := Lib.hid hq3
  clear ha2 ha3 hq2 hq3 hend
  have h0 := hp.c0
  have h1 := hp.c1
  have f1 := hp.f1
  have hlt0 := ha.lt
  have hlt1 : (i : Int) < (s.size : Int) := by omega
  have hg0 := ha.get
  have e0 : ((s[i].toNat : Int) != 58) = false := by rw [hg0]; rfl
  obtain ⟨q, hq⟩ : ∃ q, q = i + 1 := ⟨_, rfl⟩
  have haq : At s q ([110, 116, 104, 45, 108, 97, 115, 116, 45, 99, 104, 105, 108, 100] ++ (40 :: (countL a b ++ (41 :: r)))) := by rw [hq]; exact ha.next
  have hqlt := At.lt (c := 110) (r := _) haq
  have hqlt1 : (q : Int) < (s.size : Int) := by omega
  have hgq := At.get (c := 110) (r := _) haq
  have e1 : ((s[q].toNat : Int) == 58) = false := by rw [hgq]; rfl
  have HQ0 := Lib.hid (St.start hp)
  have HAQ := Lib.hid haq
  have HNQ := Lib.hid hq
  have HR := Lib.hid hr
  clear ha haq hg0 hgq hp hr hq
  go_enter Tryz.func83, Tryz.ntmps83
  go_wp2_with fail
  go_quiet (fail)
  go_wp2_with fail
  go_quiet (fail)
  go_wp2_with fail
  refine st_goal ((HQ0.out.drewN _).setI q _ (by have := HNQ.out; omega)) (fun W hst => ?_)
  have HQQ := Lib.hid hst
  have g0 := hst.c0
  have g1 := hst.c1
  have g2 := hst.f1
  clear hst h0 h1 f1
  go_quiet (fail)
  go_wp2_with fail
  go_quiet (fail)
  go_wp2_with (first | (go_at_call 87; refine (parseIdent_lit _ bp s q d [110, 116, 104, 45, 108, 97, 115, 116, 45, 99, 104, 105, 108, 100] _ ⟨#[110, 116, 104, 45, 108, 97, 115, 116, 45, 99, 104, 105, 108, 100]⟩ rfl (by exact (HQQ.out.drewN _).ps) HAQ.out hs (by decide) (by decide) (headP_cons (by simp [stopC]))).mono ?_; rintro e w' ⟨rfl, hp2, hm2⟩; rw [show q + ([110, 116, 104, 45, 108, 97, 115, 116, 45, 99, 104, 105, 108, 100] : List UInt8).length = q2 by rw [HE2.out, HNQ.out]] at hp2; have HQ2 := Lib.hid ((HQQ.out.drewN _).after hp2 hm2); clear hp2 hm2) | (go_at_call 88; refine (lower_lit [110, 116, 104, 45, 108, 97, 115, 116, 45, 99, 104, 105, 108, 100] ⟨#[110, 116, 104, 45, 108, 97, 115, 116, 45, 99, 104, 105, 108, 100]⟩ rfl _ (by decide) (by decide)).mono ?_; rintro e w'' ⟨rfl, rfl⟩) | (go_at_call 91; refine (paren_open_any _ bp s q2 d _ HQ2.out.ps HA2.out hs HOP.out).mono ?_; rintro e w' ⟨rfl, hp2, hm2⟩; have HQ3 := Lib.hid (HQ2.out.after hp2 hm2); clear hp2 hm2) | (go_at_call 94; refine (parseNth_any _ bp s (q2 + 1) d a b r HQ3.out.ps HA2.out.next hs HR.out.1 HR.out.2.1 HR.out.2.2.1 HR.out.2.2.2).mono ?_; rintro e w' ⟨rfl, hp2, hm2⟩; rw [← HE3.out] at hp2; have HQ4 := Lib.hid (HQ3.out.after hp2 hm2); clear hp2 hm2) | (go_at_call 92; refine (paren_close _ bp s q3 d r HQ4.out.ps HA3.out hs).mono ?_; rintro e w' ⟨rfl, hp2, hm2⟩; have HQ5 := Lib.hid (HQ4.out.after hp2 hm2); clear hp2 hm2))
  exact bodyPost_ret (v := .tuple #[.iface 185 (.agg #[.int .i64 a, .int .i64 b, .bool true, .bool false]), .string ⟨#[]⟩, .nilIface]) (by simp [results, Tryz.results83, go_sem]) rfl (HQ5.out.post _)

set_option maxRecDepth 100000 in
set_option maxHeartbeats 4000000 in
theorem pn_nt (w : World) (bp : Nat) (s : ByteArray) (i d : Nat) (a b : Int) (r : List UInt8) (hp : PS w bp s i d) (ha : At s i (58 :: ([110, 116, 104, 45, 111, 102, 45, 116, 121, 112, 101] ++ (40 :: (countL a b ++ (41 :: r)))))) (hs : s.size ≤ 140737488351232)
    (hr : -9 ≤ a ∧ a ≤ 9 ∧ -9 ≤ b ∧ b ≤ 9) :
    Calls Tryz.prog 83 #[.pointer (some ⟨bp, 0, none⟩)] w (PPost w bp s (i + 13 + (countL a b).length + 1) d (.tuple #[.iface 185 (.agg #[.int .i64 a, .int .i64 b, .bool false, .bool true]), .string ⟨#[]⟩, .nilIface])) := by
  obtain ⟨q2, hq2⟩ : ∃ q2, q2 = i + 1 + ([110, 116, 104, 45, 111, 102, 45, 116, 121, 112, 101] : List UInt8).length := ⟨_, rfl⟩
  have ha2 : At s q2 (40 :: (countL a b ++ (41 :: r))) := by rw [hq2]; exact ha.next.skip
  obtain ⟨q3, hq3⟩ : ∃ q3, q3 = q2 + 1 + (countL a b).length := ⟨_, rfl⟩
  have ha3 : At s q3 (41 :: r) := by rw [hq3]; exact ha2.next.skip
  have hend : i + 13 + (countL a b).length + 1 = q3 + 1 := by rw [hq3, hq2]; simp only [List.length_cons, List.length_nil]; try omega
  rw [hend]
  have HOP := Lib.hid (show ∃ c t, countL a b ++ (41 :: r) = c :: t ∧ c.toNat ≠ 32 ∧ c.toNat ≠ 9 ∧ c.toNat ≠ 10 ∧ c.toNat ≠ 12 ∧ c.toNat ≠ 13 ∧ c.toNat ≠ 47 by obtain ⟨c, t, e, h⟩ := count_head a b hr.1 hr.2.1; exact ⟨c, t ++ (41 :: r), by rw [e]; rfl, h⟩)
  have HA2 := Lib.hid ha2
  have HA3 := Lib.hid ha3
  have HE2 := Lib.hid hq2
  have HE3 := Lib.hid hq3
  clear ha2 ha3 hq2 hq3 hend
  have h0 := hp.c0
  have h1 := hp.c1
  have f1 := hp.f1
  have hlt0 := ha.lt
  have hlt1 : (i : Int) < (s.size : Int) := by omega
  have hg0 := ha.get
  have e0 : ((s[i].toNat : Int) != 58) = false := by rw [hg0]; rfl
  obtain ⟨q, hq⟩ : ∃ q, q = i + 1 := ⟨_, rfl⟩
  have haq : At s q ([110, 116, 104, 45, 111, 102, 45, 116, 121, 112, 101] ++ (40 :: (countL a b ++ (41 :: r)))) := by rw [hq]; exact ha.next
  have hqlt := At.lt (c := 110) (r := _) haq
  have hqlt1 : (q : Int) < (s.size : Int) := by omega
  have hgq := At.get (c := 110) (r := _) haq
  have e1 : ((s[q].toNat : Int) == 58) = false := by rw [hgq]; rfl
  have HQ0 := Lib.hid (St.start hp)
  have HAQ := Lib.hid haq
  have HNQ := Lib.hid hq
  have HR := Lib.hid hr
  clear ha haq hg0 hgq hp hr hq
  go_enter Tryz.func83, Tryz.ntmps83
  go_wp2_with fail
  go_quiet (fail)
  go_wp2_with fail
  go_quiet (fail)
  go_wp2_with fail
  refine st_goal ((HQ0.out.drewN _).setI q _ (by have := HNQ.out; omega)) (fun W hst => ?_)
  have HQQ := Lib.hid hst
  have g0 := hst.c0
  have g1 := hst.c1
  have g2 := hst.f1
  clear hst h0 h1 f1
  go_quiet (fail)
  go_wp2_with fail
  go_quiet (fail)
  go_wp2_with (first | (go_at_call 87; refine (parseIdent_lit _ bp s q d [110, 116, 104, 45, 111, 102, 45, 116, 121, 112, 101] _ ⟨#[110, 116, 104, 45, 111, 102, 45, 116, 121, 112, 101]⟩ rfl (by exact (HQQ.out.drewN _).ps) HAQ.out hs (by decide) (by decide) (headP_cons (by simp [stopC]))).mono ?_; rintro e w' ⟨rfl, hp2, hm2⟩; rw [show q + ([110, 116, 104, 45, 111, 102, 45, 116, 121, 112, 101] : List UInt8).length = q2 by rw [HE2.out, HNQ.out]] at hp2; have HQ2 := Lib.hid ((HQQ.out.drewN _).after hp2 hm2); clear hp2 hm2) | (go_at_call 88; refine (lower_lit [110, 116, 104, 45, 111, 102, 45, 116, 121, 112, 101] ⟨#[110, 116, 104, 45, 111, 102, 45, 116, 121, 112, 101]⟩ rfl _ (by decide) (by decide)).mono ?_; rintro e w'' ⟨rfl, rfl⟩) | (go_at_call 91; refine (paren_open_any _ bp s q2 d _ HQ2.out.ps HA2.out hs HOP.out).mono ?_; rintro e w' ⟨rfl, hp2, hm2⟩; have HQ3 := Lib.hid (HQ2.out.after hp2 hm2); clear hp2 hm2) | (go_at_call 94; refine (parseNth_any _ bp s (q2 + 1) d a b r HQ3.out.ps HA2.out.next hs HR.out.1 HR.out.2.1 HR.out.2.2.1 HR.out.2.2.2).mono ?_; rintro e w' ⟨rfl, hp2, hm2⟩; rw [← HE3.out] at hp2; have HQ4 := Lib.hid (HQ3.out.after hp2 hm2); clear hp2 hm2) | (go_at_call 92; refine (paren_close _ bp s q3 d r HQ4.out.ps HA3.out hs).mono ?_; rintro e w' ⟨rfl, hp2, hm2⟩; have HQ5 := Lib.hid (HQ4.out.after hp2 hm2); clear hp2 hm2))
  exact bodyPost_ret (v := .tuple #[.iface 185 (.agg #[.int .i64 a, .int .i64 b, .bool false, .bool true]), .string ⟨#[]⟩, .nilIface]) (by simp [results, Tryz.results83, go_sem]) rfl (HQ5.out.post _)

set_option maxRecDepth 100000 in
set_option maxHeartbeats 4000000 in
theorem pn_nlt (w : World) (bp : Nat) (s : ByteArray) (i d : Nat) (a b : Int) (r : List UInt8) (hp : PS w bp s i d) (ha : At s i (58 :: ([110, 116, 104, 45, 108, 97, 115, 116, 45, 111, 102, 45, 116, 121, 112, 101] ++ (40 :: (countL a b ++ (41 :: r)))))) (hs : s.size ≤ 140737488351232)
    (hr : -9 ≤ a ∧ a ≤ 9 ∧ -9 ≤ b ∧ b ≤ 9) :
    Calls Tryz.prog 83 #[.pointer (some ⟨bp, 0, none⟩)] w (PPost w bp s (i + 18 + (countL a b).length + 1) d (.tuple #[.iface 185 (.agg #[.int .i64 a, .int .i64 b, .bool true, .bool true]), .string ⟨#[]⟩, .nilIface])) := by
  obtain ⟨q2, hq2⟩ : ∃ q2, q2 = i + 1 + ([110, 116, 104, 45, 108, 97, 115, 116, 45, 111, 102, 45, 116, 121, 112, 101] : List UInt8).length := ⟨_, rfl⟩
  have ha2 : At s q2 (40 :: (countL a b ++ (41 :: r))) := by rw [hq2]; exact ha.next.skip
  obtain ⟨q3, hq3⟩ : ∃ q3, q3 = q2 + 1 + (countL a b).length := ⟨_, rfl⟩
  have ha3 : At s q3 (41 :: r) := by rw [hq3]; exact ha2.next.skip
  have hend : i + 18 + (countL a b).length + 1 = q3 + 1 := by rw [hq3, hq2]; simp only [List.length_cons, List.length_nil]; try omega
  rw [hend]
  have HOP := Lib.hid (show ∃ c t, countL a b ++ (41 :: r) = c :: t ∧ c.toNat ≠ 32 ∧ c.toNat ≠ 9 ∧ c.toNat ≠ 10 ∧ c.toNat ≠ 12 ∧ c.toNat ≠ 13 ∧ c.toNat ≠ 47 by obtain ⟨c, t, e, h⟩ := count_head a b hr.1 hr.2.1; exact ⟨c, t ++ (41 :: r), by rw [e]; rfl, h⟩)
  have HA2 := Lib.hid ha2
  have HA3 := Lib.hid ha3
  have HE2 := Lib.hid hq2
  have HE3 := Lib.hid hq3
  clear ha2 ha3 hq2 hq3 hend
  have h0 := hp.c0
  have h1 := hp.c1
  have f1 := hp.f1
  have hlt0 := ha.lt
  have hlt1 : (i : Int) < (s.size : Int) := by omega
  have hg0 := ha.get
  have e0 : ((s[i].toNat : Int) != 58) = false := by rw [hg0]; rfl
  obtain ⟨q, hq⟩ : ∃ q, q = i + 1 := ⟨_, rfl⟩
  have haq : At s q ([110, 116, 104, 45, 108, 97, 115, 116, 45, 111, 102, 45, 116, 121, 112, 101] ++ (40 :: (countL a b ++ (41 :: r)))) := by rw [hq]; exact ha.next
  have hqlt := At.lt (c := 110) (r := _) haq
  have hqlt1 : (q : Int) < (s.size : Int) := by omega
  have hgq := At.get (c := 110) (r := _) haq
  have e1 : ((s[q].toNat : Int) == 58) = false := by rw [hgq]; rfl
  have HQ0 := Lib.hid (St.start hp)
  have HAQ := Lib.hid haq
  have HNQ := Lib.hid hq
  have HR := Lib.hid hr
  clear ha haq hg0 hgq hp hr hq
  go_enter Tryz.func83, Tryz.ntmps83
  go_wp2_with fail
  go_quiet (fail)
  go_wp2_with fail
  go_quiet (fail)
  go_wp2_with fail
  refine st_goal ((HQ0.out.drewN _).setI q _ (by have := HNQ.out; omega)) (fun W hst => ?_)
  have HQQ := Lib.hid hst
  have g0 := hst.c0
  have g1 := hst.c1
  have g2 := hst.f1
  clear hst h0 h1 f1
  go_quiet (fail)
  go_wp2_with fail
  go_quiet (fail)
  go_wp2_with (first | (go_at_call 87; refine (parseIdent_lit _ bp s q d [110, 116, 104, 45, 108, 97, 115, 116, 45, 111, 102, 45, 116, 121, 112, 101] _ ⟨#[110, 116, 104, 45, 108, 97, 115, 116, 45, 111, 102, 45, 116, 121, 112, 101]⟩ rfl (by exact (HQQ.out.drewN _).ps) HAQ.out hs (by decide) (by decide) (headP_cons (by simp [stopC]))).mono ?_; rintro e w' ⟨rfl, hp2, hm2⟩; rw [show q + ([110, 116, 104, 45, 108, 97, 115, 116, 45, 111, 102, 45, 116, 121, 112, 101] : List UInt8).length = q2 by rw [HE2.out, HNQ.out]] at hp2; have HQ2 := Lib.hid ((HQQ.out.drewN _).after hp2 hm2); clear hp2 hm2) | (go_at_call 88; refine (lower_lit [110, 116, 104, 45, 108, 97, 115, 116, 45, 111, 102, 45, 116, 121, 112, 101] ⟨#[110, 116, 104, 45, 108, 97, 115, 116, 45, 111, 102, 45, 116, 121, 112, 101]⟩ rfl _ (by decide) (by decide)).mono ?_; rintro e w'' ⟨rfl, rfl⟩) | (go_at_call 91; refine (paren_open_any _ bp s q2 d _ HQ2.out.ps HA2.out hs HOP.out).mono ?_; rintro e w' ⟨rfl, hp2, hm2⟩; have HQ3 := Lib.hid (HQ2.out.after hp2 hm2); clear hp2 hm2) | (go_at_call 94; refine (parseNth_any _ bp s (q2 + 1) d a b r HQ3.out.ps HA2.out.next hs HR.out.1 HR.out.2.1 HR.out.2.2.1 HR.out.2.2.2).mono ?_; rintro e w' ⟨rfl, hp2, hm2⟩; rw [← HE3.out] at hp2; have HQ4 := Lib.hid (HQ3.out.after hp2 hm2); clear hp2 hm2) | (go_at_call 92; refine (paren_close _ bp s q3 d r HQ4.out.ps HA3.out hs).mono ?_; rintro e w' ⟨rfl, hp2, hm2⟩; have HQ5 := Lib.hid (HQ4.out.after hp2 hm2); clear hp2 hm2))
  exact bodyPost_ret (v := .tuple #[.iface 185 (.agg #[.int .i64 a, .int .i64 b, .bool true, .bool true]), .string ⟨#[]⟩, .nilIface]) (by simp [results, Tryz.results83, go_sem]) rfl (HQ5.out.post _)

end Go.Proofs.YteaapgijeehhfaaGreatDoor

namespace Go.Proofs.YteaapgijeehhfaaGreatDoor
open Go.RowKit

theorem RS.val : ∀ {d : Nat} {X : Nat → Prop} {w : World} {v : Value} {g : Group}, RS d X w v g → ∃ a cap, v = .slice a g.length cap
  | 0, _, _, _, _, h => h.elim
  | _ + 1, _, _, _, _, h => by obtain ⟨a, cap, h, _⟩ := SlX.len h (by omega); exact ⟨a, cap, h⟩

theorem paren_open_hd (w : World) (bp : Nat) (s : ByteArray) (i d : Nat) (r : List UInt8) (hp : PS w bp s i d) (ha : At s i (40 :: r)) (hs : s.size ≤ 140737488351232)
    (hr : ∃ c t, r = c :: t ∧ c.toNat ≠ 32 ∧ c.toNat ≠ 9 ∧ c.toNat ≠ 10 ∧ c.toNat ≠ 12 ∧ c.toNat ≠ 13 ∧ c.toNat ≠ 47) :
    Calls Tryz.prog 91 #[.pointer (some ⟨bp, 0, none⟩)] w (PPost w bp s (i + 1) d (.bool true)) := by
  obtain ⟨c, t, rfl, h⟩ := hr
  exact paren_open w bp s i d c t hp ha hs h

/-- What reading a group leaves. -/
def GPost (D : Nat) (g : Group) (w : World) (bp : Nat) (s : ByteArray) (j d : Nat) (e : Ending) (w' : World) : Prop :=
  ∃ v, e = .returned (.tuple #[v, .nilIface]) ∧ RS D (fun k => w.heap.size ≤ k) w' v g ∧ PS w' bp s j d ∧ Mv bp w w'

set_option maxRecDepth 100000 in
set_option maxHeartbeats 4000000 in
theorem pr_not (D : Nat) (g : Group) (w : World) (bp : Nat) (s : ByteArray) (i d : Nat) (t r : List UInt8) (hp : PS w bp s i d) (ha : At s i (58 :: ([110, 111, 116] ++ (40 :: (t ++ (41 :: r)))))) (hs : s.size ≤ 140737488351232)
    (hr : ∃ c u, t ++ (41 :: r) = c :: u ∧ c.toNat ≠ 32 ∧ c.toNat ≠ 9 ∧ c.toNat ≠ 10 ∧ c.toNat ≠ 12 ∧ c.toNat ≠ 13 ∧ c.toNat ≠ 47)
    (hG : ∀ W, PS W bp s (i + 5) d → Calls Tryz.prog 52 #[.pointer (some ⟨bp, 0, none⟩)] W (GPost D g W bp s (i + 5 + t.length) d)) :
    Calls Tryz.prog 83 #[.pointer (some ⟨bp, 0, none⟩)] w (fun e w' => ∃ v, e = .returned (.tuple #[.iface 177 (.agg #[.string ⟨#[110, 111, 116]⟩, v]), .string ⟨#[]⟩, .nilIface]) ∧ RS D (fun k => w.heap.size ≤ k) w' v g ∧ PS w' bp s (i + 5 + t.length + 1) d ∧ Mv bp w w') := by
  obtain ⟨q2, hq2⟩ : ∃ q2, q2 = i + 1 + ([110, 111, 116] : List UInt8).length := ⟨_, rfl⟩
  have ha2 : At s q2 (40 :: (t ++ (41 :: r))) := by rw [hq2]; exact ha.next.skip
  obtain ⟨q3, hq3⟩ : ∃ q3, q3 = q2 + 1 + t.length := ⟨_, rfl⟩
  have ha3 : At s q3 (41 :: r) := by rw [hq3]; exact ha2.next.skip
  have hend : i + 5 = q2 + 1 := by rw [hq2]; simp only [List.length_cons, List.length_nil]; try omega
  rw [hend, ← hq3] at hG
  rw [hend, ← hq3]
  have HG := Lib.hid hG
  have hbp := hp.lt
  have HA2 := Lib.hid ha2
  have HA3 := Lib.hid ha3
  have HE2 := Lib.hid hq2
  clear ha2 ha3 hq2 hq3 hend hG
  have h0 := hp.c0
  have h1 := hp.c1
  have f1 := hp.f1
  have hlt0 := ha.lt
  have hlt1 : (i : Int) < (s.size : Int) := by omega
  have hg0 := ha.get
  have e0 : ((s[i].toNat : Int) != 58) = false := by rw [hg0]; rfl
  obtain ⟨q, hq⟩ : ∃ q, q = i + 1 := ⟨_, rfl⟩
  have haq : At s q ([110, 111, 116] ++ (40 :: (t ++ (41 :: r)))) := by rw [hq]; exact ha.next
  have hqlt := At.lt (c := 110) (r := _) haq
  have hqlt1 : (q : Int) < (s.size : Int) := by omega
  have hgq := At.get (c := 110) (r := _) haq
  have e1 : ((s[q].toNat : Int) == 58) = false := by rw [hgq]; rfl
  have HQ0 := Lib.hid (St.start hp)
  have HAQ := Lib.hid haq
  have HNQ := Lib.hid hq
  have HR := Lib.hid hr
  clear ha haq hg0 hgq hp hr hq
  go_enter Tryz.func83, Tryz.ntmps83
  go_wp2_with fail
  go_quiet (fail)
  go_wp2_with fail
  go_quiet (fail)
  go_wp2_with fail
  refine st_goal ((HQ0.out.drewN _).setI q _ (by have := HNQ.out; omega)) (fun W hst => ?_)
  have HQQ := Lib.hid hst
  have g0 := hst.c0
  have g1 := hst.c1
  have g2 := hst.f1
  clear hst h0 h1 f1
  go_quiet (fail)
  go_wp2_with fail
  go_quiet (fail)
  go_wp2_with (first | (go_at_call 87; refine (parseIdent_lit _ bp s q d [110, 111, 116] _ ⟨#[110, 111, 116]⟩ rfl (by exact (HQQ.out.drewN _).ps) HAQ.out hs (by decide) (by decide) (headP_cons (by simp [stopC]))).mono ?_; rintro e w' ⟨rfl, hp2, hm2⟩; rw [show q + ([110, 111, 116] : List UInt8).length = q2 by rw [HE2.out, HNQ.out]] at hp2; have HQ2 := Lib.hid ((HQQ.out.drewN _).after hp2 hm2); clear hp2 hm2) | (go_at_call 88; refine (lower_lit [110, 111, 116] ⟨#[110, 111, 116]⟩ rfl _ (by decide) (by decide)).mono ?_; rintro e w'' ⟨rfl, rfl⟩) | (go_at_call 91; refine (paren_open_hd _ bp s q2 d _ HQ2.out.ps HA2.out hs HR.out).mono ?_; rintro e w' ⟨rfl, hp2, hm2⟩; have HQ3 := Lib.hid (HQ2.out.after hp2 hm2); clear hp2 hm2) | (go_at_call 52; refine (HG.out _ HQ3.out.ps).mono ?_; rintro e w' ⟨v, rfl, hv, hp2, hm2⟩; obtain ⟨va, vc, rfl⟩ := hv.val; have HVV := Lib.hid ((RS.rep D).mono (fun k (hk : _ ≤ k) => Nat.le_trans HQ3.out.mv.size hk) hv); have HQ4 := Lib.hid (HQ3.out.after hp2 hm2); clear hp2 hm2 hv) | (go_at_call 92; refine (paren_close _ bp s q3 d r HQ4.out.ps HA3.out hs).mono ?_; rintro e w' ⟨rfl, hp2, hm2⟩; have HVW := Lib.hid ((RS.rep D).keep (hm2.keep.weak (fun k _ (hk : w.heap.size ≤ k) => by omega)) HVV.out); have HQ5 := Lib.hid (HQ4.out.after hp2 hm2); clear hp2 hm2))
  exact bodyPost_ret (v := .tuple #[.iface 177 (.agg #[.string ⟨#[110, 111, 116]⟩, .slice va g.length vc]), .string ⟨#[]⟩, .nilIface]) (by simp [results, Tryz.results83, go_sem]) rfl ⟨_, rfl, HVW.out, HQ5.out.ps, HQ5.out.mv⟩

set_option maxRecDepth 100000 in
set_option maxHeartbeats 4000000 in
theorem pr_has (D : Nat) (g : Group) (w : World) (bp : Nat) (s : ByteArray) (i d : Nat) (t r : List UInt8) (hp : PS w bp s i d) (ha : At s i (58 :: ([104, 97, 115] ++ (40 :: (t ++ (41 :: r)))))) (hs : s.size ≤ 140737488351232)
    (hr : ∃ c u, t ++ (41 :: r) = c :: u ∧ c.toNat ≠ 32 ∧ c.toNat ≠ 9 ∧ c.toNat ≠ 10 ∧ c.toNat ≠ 12 ∧ c.toNat ≠ 13 ∧ c.toNat ≠ 47)
    (hG : ∀ W, PS W bp s (i + 5) d → Calls Tryz.prog 52 #[.pointer (some ⟨bp, 0, none⟩)] W (GPost D g W bp s (i + 5 + t.length) d)) :
    Calls Tryz.prog 83 #[.pointer (some ⟨bp, 0, none⟩)] w (fun e w' => ∃ v, e = .returned (.tuple #[.iface 177 (.agg #[.string ⟨#[104, 97, 115]⟩, v]), .string ⟨#[]⟩, .nilIface]) ∧ RS D (fun k => w.heap.size ≤ k) w' v g ∧ PS w' bp s (i + 5 + t.length + 1) d ∧ Mv bp w w') := by
  obtain ⟨q2, hq2⟩ : ∃ q2, q2 = i + 1 + ([104, 97, 115] : List UInt8).length := ⟨_, rfl⟩
  have ha2 : At s q2 (40 :: (t ++ (41 :: r))) := by rw [hq2]; exact ha.next.skip
  obtain ⟨q3, hq3⟩ : ∃ q3, q3 = q2 + 1 + t.length := ⟨_, rfl⟩
  have ha3 : At s q3 (41 :: r) := by rw [hq3]; exact ha2.next.skip
  have hend : i + 5 = q2 + 1 := by rw [hq2]; simp only [List.length_cons, List.length_nil]; try omega
  rw [hend, ← hq3] at hG
  rw [hend, ← hq3]
  have HG := Lib.hid hG
  have hbp := hp.lt
  have HA2 := Lib.hid ha2
  have HA3 := Lib.hid ha3
  have HE2 := Lib.hid hq2
  clear ha2 ha3 hq2 hq3 hend hG
  have h0 := hp.c0
  have h1 := hp.c1
  have f1 := hp.f1
  have hlt0 := ha.lt
  have hlt1 : (i : Int) < (s.size : Int) := by omega
  have hg0 := ha.get
  have e0 : ((s[i].toNat : Int) != 58) = false := by rw [hg0]; rfl
  obtain ⟨q, hq⟩ : ∃ q, q = i + 1 := ⟨_, rfl⟩
  have haq : At s q ([104, 97, 115] ++ (40 :: (t ++ (41 :: r)))) := by rw [hq]; exact ha.next
  have hqlt := At.lt (c := 104) (r := _) haq
  have hqlt1 : (q : Int) < (s.size : Int) := by omega
  have hgq := At.get (c := 104) (r := _) haq
  have e1 : ((s[q].toNat : Int) == 58) = false := by rw [hgq]; rfl
  have HQ0 := Lib.hid (St.start hp)
  have HAQ := Lib.hid haq
  have HNQ := Lib.hid hq
  have HR := Lib.hid hr
  clear ha haq hg0 hgq hp hr hq
  go_enter Tryz.func83, Tryz.ntmps83
  go_wp2_with fail
  go_quiet (fail)
  go_wp2_with fail
  go_quiet (fail)
  go_wp2_with fail
  refine st_goal ((HQ0.out.drewN _).setI q _ (by have := HNQ.out; omega)) (fun W hst => ?_)
  have HQQ := Lib.hid hst
  have g0 := hst.c0
  have g1 := hst.c1
  have g2 := hst.f1
  clear hst h0 h1 f1
  go_quiet (fail)
  go_wp2_with fail
  go_quiet (fail)
  go_wp2_with (first | (go_at_call 87; refine (parseIdent_lit _ bp s q d [104, 97, 115] _ ⟨#[104, 97, 115]⟩ rfl (by exact (HQQ.out.drewN _).ps) HAQ.out hs (by decide) (by decide) (headP_cons (by simp [stopC]))).mono ?_; rintro e w' ⟨rfl, hp2, hm2⟩; rw [show q + ([104, 97, 115] : List UInt8).length = q2 by rw [HE2.out, HNQ.out]] at hp2; have HQ2 := Lib.hid ((HQQ.out.drewN _).after hp2 hm2); clear hp2 hm2) | (go_at_call 88; refine (lower_lit [104, 97, 115] ⟨#[104, 97, 115]⟩ rfl _ (by decide) (by decide)).mono ?_; rintro e w'' ⟨rfl, rfl⟩) | (go_at_call 91; refine (paren_open_hd _ bp s q2 d _ HQ2.out.ps HA2.out hs HR.out).mono ?_; rintro e w' ⟨rfl, hp2, hm2⟩; have HQ3 := Lib.hid (HQ2.out.after hp2 hm2); clear hp2 hm2) | (go_at_call 52; refine (HG.out _ HQ3.out.ps).mono ?_; rintro e w' ⟨v, rfl, hv, hp2, hm2⟩; obtain ⟨va, vc, rfl⟩ := hv.val; have HVV := Lib.hid ((RS.rep D).mono (fun k (hk : _ ≤ k) => Nat.le_trans HQ3.out.mv.size hk) hv); have HQ4 := Lib.hid (HQ3.out.after hp2 hm2); clear hp2 hm2 hv) | (go_at_call 92; refine (paren_close _ bp s q3 d r HQ4.out.ps HA3.out hs).mono ?_; rintro e w' ⟨rfl, hp2, hm2⟩; have HVW := Lib.hid ((RS.rep D).keep (hm2.keep.weak (fun k _ (hk : w.heap.size ≤ k) => by omega)) HVV.out); have HQ5 := Lib.hid (HQ4.out.after hp2 hm2); clear hp2 hm2))
  exact bodyPost_ret (v := .tuple #[.iface 177 (.agg #[.string ⟨#[104, 97, 115]⟩, .slice va g.length vc]), .string ⟨#[]⟩, .nilIface]) (by simp [results, Tryz.results83, go_sem]) rfl ⟨_, rfl, HVW.out, HQ5.out.ps, HQ5.out.mv⟩

end Go.Proofs.YteaapgijeehhfaaGreatDoor
