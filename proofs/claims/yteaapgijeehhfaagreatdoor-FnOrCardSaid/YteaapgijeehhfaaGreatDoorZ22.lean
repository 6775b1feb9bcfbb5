/- strings.TrimSpace, whatever its table holds: whether it leaves anything. -/
/- Elements without children. -/
/- Whether a text is a part of another. -/
import Derived.Test.YteaapgijeehhfaaGreatDoorZ21
import Derived.Lib.ConvBytes
import Derived.Test.YteaapgijeehhfaaGreatDoorZ04
namespace Go.Proofs.YteaapgijeehhfaaGreatDoor
open Go.RowKit

theorem run_slice_tail (wx : World) (k : Nat) (s : ByteArray) (hk : k ≤ s.size) (hs : s.size ≤ 2147483647) :
    (Instr.slice 9 (.string s) (some (.int .i64 (k : Int))) none none).run Tryz.prog wx = .ok (.string (s.extract k s.size)) wx := by
  have h1 : (k : Int) ≤ (s.size : Int) := by omega
  have := hs
  go_simp

/-- The table that TrimSpace asks: T c at byte c. -/
def Tbl (w : World) (T : Nat → Int) : Prop := ∀ k, k < 128 → w.cell? ⟨14, k, none⟩ = some (.int .u8 (T k))
theorem Tbl.keep {w w' : World} {T : Nat → Int} (h : Tbl w T) (hb : Below w.heap.size w w') : Tbl w' T := fun k hk => cell_keep hb (h k hk)
def trimE (T : Nat → Int) (s : ByteArray) : Bool := (L s).all fun c => decide (T c.toNat ≠ 0)

set_option maxRecDepth 100000 in
set_option maxHeartbeats 4000000 in
theorem trim_any (w : World) (T : Nat → Int) (s : ByteArray) (hs : asc s) (hT : Tbl w T) :
    Calls Tryz.prog 209 #[.string s] w fun e w' => ∃ u, e = .returned (.string u) ∧ u.toList.isEmpty = trimE T s ∧ Below w.heap.size w w' := by
  have hsz := hs.2
  have HS := Lib.hid hs.1
  have HT := Lib.hid hT
  clear hs hT
  have hcv := fun wx => Lib.run_convert_string_bytes (P := Tryz.prog) wx 9 133 5 s Tryz.underlying9 Tryz.underlying133 Tryz.underlying5
  obtain ⟨W1, hW1⟩ : ∃ W1, W1 = Lib.bytesWorld w 5 s := ⟨_, rfl⟩
  have hcell : ∀ j (h : j < s.size), W1.cell? ⟨w.heap.size, j, none⟩ = some (.int .u8 (s[j].toNat)) := by
    intro j h
    rw [hW1, Lib.bytesWorld_cell w 5 s j h]
    have e : s.data.toList.getD j 0 = s[j] := by rw [List.getD_eq_getElem?_getD, List.getElem?_eq_getElem (by simpa using h)]; rfl
    rw [e]
  have hb1 : Below w.heap.size w W1 := by rw [hW1]; exact bytes_below w 5 s
  have hcv1 := hcv w
  rw [← hW1] at hcv1
  have HCL := Lib.hid hcell
  have HB1 := Lib.hid hb1
  have HT1 := Lib.hid (HT.out.keep hb1)
  clear hcv hcell hb1 hW1
  go_enter Tryz.func209, Tryz.ntmps209
  go_wp2_with fail
  go_loop [0, 10] (fun v i => ∃ k : Nat, k ≤ s.size ∧ v = .string s ∧ i = .int .i64 k ∧ ((L s).take k).all (fun c => decide (T c.toNat ≠ 0)) = true) (fun _ i => s.size - (intOf i).toNat)
  case atStart => exact ⟨0, Nat.zero_le _, rfl, rfl, rfl⟩
  case round =>
    obtain ⟨k, hk, rfl, rfl, hall⟩ := hrel
    have HA := Lib.hid hall
    clear hall
    by_cases hlt : k < s.size
    · have hc0 := HCL.out k hlt
      have hca : (s[k]).toNat < 128 := HS.out _ (by rw [L_get s k hlt]; exact List.getElem_mem _)
      have hct := HT1.out _ hca
      have hge : ¬ (128 ≤ (s[k].toNat : Int)) := by omega
      by_cases h0 : T s[k].toNat = 0
      · have e0 : (T s[k].toNat != 0) = false := by simpa using h0
        obtain ⟨r, hr⟩ : ∃ r, r = s.extract k s.size := ⟨_, rfl⟩
        have hLr : L r = (L s).drop k := by rw [hr, L_extract, take_end s s.size (by omega)]
        have hrs : r.size = s.size - k := by rw [← L_len, hLr, List.length_drop, L_len]
        have hr0 : 0 < r.size := by omega
        have hfirst : r[0] = s[k] := by
          rw [L_get r 0 hr0, L_get s k hlt]
          simp [hLr]
        have hTr : T r[0].toNat = 0 := by rw [hfirst]; exact h0
        have hasr : ∀ j (h : j < r.size), (r[j]).toNat < 128 := by
          intro j h
          refine HS.out _ (List.mem_of_mem_drop (i := k) ?_)
          rw [← hLr, L_get r j h]; exact List.getElem_mem _
        have htrim : trimE T s = false := all_stop hlt (by simp [h0])
        have hslr : ∀ wx, (Instr.slice 9 (.string s) (some (.int .i64 (k : Int))) none none).run Tryz.prog wx = .ok (.string r) wx := by
          intro wx
          rw [hr]
          exact run_slice_tail wx k s (by omega) (by omega)
        have HR := Lib.hid hr
        have HTR := Lib.hid hTr
        have HAS := Lib.hid hasr
        have HTM := Lib.hid htrim
        clear hr hLr hfirst hTr hasr htrim h0
        go_wp2_with fail
        go_loop [5] (fun t => ∃ j : Nat, j < r.size ∧ t = .int .i64 j) (fun t => (intOf t).toNat)
        case atStart => exact ⟨r.size - 1, by omega, by go_num⟩
        case round =>
          obtain ⟨j, hj, rfl⟩ := hrel
          have hja : (r[j]).toNat < 128 := HAS.out j hj
          have hjt := HT1.out _ hja
          have hjge : ¬ (128 ≤ (r[j].toNat : Int)) := by omega
          by_cases hz : T r[j].toNat = 0
          · have ez : (T r[j].toNat == 0) = true := by simpa using hz
            clear hz
            go_wp2_with fail
            go_ret
            refine ⟨_, rfl, ?_, HB1.out⟩
            rw [HTM.out, L_toList, L_extract]
            have hl : ((L r).take (j + 1)).drop 0 ≠ [] := by
              intro e
              have := congrArg List.length e
              rw [List.drop_zero, List.length_take, L_len] at this
              have h2 : min (j + 1) r.size = 0 := this
              omega
            cases h : ((L r).take (j + 1)).drop 0 with
            | nil => exact absurd h hl
            | cons a l => rfl
          · have ez : (T r[j].toNat == 0) = false := by simpa using hz
            have hj0 : j ≠ 0 := by intro e; subst e; exact hz HTR.out
            obtain ⟨j, rfl⟩ : ∃ j', j = j' + 1 := ⟨j - 1, by omega⟩
            clear hz hj0
            go_wp2_with fail
            go_round
            case rel => exact ⟨j, by omega, by go_num⟩
            case measure => simp [intOf]
      · have e0 : (T s[k].toNat != 0) = true := by simpa using h0
        go_wp2_with fail
        go_round
        case rel => exact ⟨k + 1, by omega, rfl, by go_num, all_succ hlt HA.out (by simp [h0])⟩
        case measure => simp [intOf]; omega
    · go_wp2_with fail
      go_ret
      exact ⟨_, rfl, by unfold trimE; rw [all_end hlt HA.out, L_toList]; rfl, HB1.out⟩

end Go.Proofs.YteaapgijeehhfaaGreatDoor

namespace Go.Proofs.YteaapgijeehhfaaGreatDoor
open Go.RowKit

def fills (T : Nat → Int) (t : List Nk) (c : Nat) : Bool := decide (knd t c = 3) || (decide (knd t c = 1) && !trimE T (dat t c))
def mEmpty (T : Nat → Int) (t : List Nk) (i : Nat) : Bool := isEl t i && !chainAny (nxt t) (fills T t) t.length (fst t i)

set_option maxRecDepth 100000 in
set_option maxHeartbeats 4000000 in
theorem empty_any (T : Nat → Int) (w : World) (bl : Nat → Nat) (t : List Nk) (i : Nat) (hi : i < t.length) (ht : TreeAt w bl t) (hT : Tbl w T) :
    Calls Tryz.prog 260 #[.agg #[], .pointer (some ⟨bl i, 0, none⟩)] w fun e w' => e = .returned (.bool (mEmpty T t i)) ∧ Below w.heap.size w w' := by
  have hba := below_alloc w (.cells #[] 190)
  have HT := Lib.hid ht
  have HTB := Lib.hid hT
  have HB := Lib.hid hba
  have p5 := (ht.keep hba).c5 hi
  have p1 := (ht.keep hba).c1 hi
  have p5' := ht.c5 hi
  have p1' := ht.c1 hi
  clear ht hT hba
  unfold mEmpty isEl
  obtain ⟨R, hR⟩ : ∃ R, chainAny (nxt t) (fills T t) t.length (fst t i) = R := ⟨_, rfl⟩
  rw [hR]
  have HR := Lib.hid hR
  clear hR
  by_cases h3 : knd t i = 3
  · have e3 : (knd t i != 3) = false := by simp [h3]
    rw [show decide (knd t i = 3) = true by simp [h3]]
    simp only [Bool.true_and]
    clear h3
    go_enter Tryz.func260, Tryz.ntmps260
    go_wp2_with fail
    go_loopg [5] t.length (fun k v wr => ∃ o, v = ptr bl o ∧ k ≤ t.length ∧ (∀ c, o = some c → t.length ≤ k + c ∧ c < t.length ∧ 0 < c) ∧ chainAny (nxt t) (fills T t) k o = R ∧ Below w.heap.size w wr)
    case atStart => exact ⟨_, rfl, Nat.le_refl _, fun c hc => by have := HT.out.fst_lt hi hc; omega, HR.out, by first | exact Below.refl _ _ | exact HB.out⟩
    case round =>
      obtain ⟨o, rfl, hk, ho, hch, hb⟩ := hrel
      cases o with
      | none =>
        rw [chainAny_none] at hch
        have HCH := Lib.hid hch
        clear hch ho
        simp only [ptr, Option.map_none]
        go_wp2_with fail
        go_ret
        exact ⟨ret_bool (by rw [← HCH.out]; rfl), hb⟩
      | some c =>
        obtain ⟨hck, hcl, hc0⟩ := ho c rfl
        obtain ⟨k, rfl⟩ : ∃ k, gk = k + 1 := ⟨gk - 1, by omega⟩
        have q5 := (HT.out.keep hb).c5 hcl
        have q6 := (HT.out.keep hb).c6 hcl
        have q4 := (HT.out.keep hb).c4 hcl
        simp only [chainAny] at hch
        simp only [ptr, Option.map_some]
        by_cases h3 : knd t c = 3
        · have e3c : (knd t c == 3) = true := by simp [h3]
          rw [show fills T t c = true by simp [fills, h3], Bool.true_or] at hch
          have HCH := Lib.hid hch
          clear hch h3 ho
          go_wp2_with fail
          go_ret
          exact ⟨ret_bool (by rw [← HCH.out]; rfl), hb⟩
        · have e3c : (knd t c == 3) = false := by simp [h3]
          by_cases h1 : knd t c = 1
          · have e1c : (knd t c == 1) = true := by simp [h1]
            rw [show fills T t c = !trimE T (dat t c) by simp [fills, h1]] at hch
            have hcall := trim_any wr T (dat t c) (HT.out.dat_asc hcl hc0) (HTB.out.keep hb)
            obtain ⟨b1, hb1⟩ : ∃ b1, trimE T (dat t c) = b1 := ⟨_, rfl⟩
            rw [hb1] at hch hcall
            have HC := Lib.hid hcall
            have HCH := Lib.hid hch
            clear hch h3 h1 ho hcall hb1
            cases b1
            · go_wp2_with (go_at_call 209; refine HC.out.mono ?_; rintro e w2 ⟨u, rfl, hu, hb2⟩; have hb3 := below_step hb hb2; have HB3 := Lib.hid hb3; clear hb2 hb3)
              go_ret
              exact ⟨ret_bool (by simpa using HCH.out), HB3.out⟩
            · go_wp2_with (go_at_call 209; refine HC.out.mono ?_; rintro e w2 ⟨u, rfl, hu, hb2⟩; have hb3 := below_step hb hb2; have s4 := (HT.out.keep hb3).c4 hcl; have HB3 := Lib.hid hb3; clear hb2 hb3)
              go_roundg k
              case measure => omega
              case rel => exact ⟨_, rfl, by omega, fun q hq => by have := HT.out.nxt_lt hcl hq; omega, by simpa using HCH.out, HB3.out⟩
          · have e1c : (knd t c == 1) = false := by simp [h1]
            rw [show fills T t c = false by simp [fills, h1, h3], Bool.false_or] at hch
            have HCH := Lib.hid hch
            clear hch h3 h1 ho
            go_wp2_with fail
            go_roundg k
            case measure => omega
            case rel => exact ⟨_, rfl, by omega, fun q hq => by have := HT.out.nxt_lt hcl hq; omega, HCH.out, hb⟩
  · have e3 : (knd t i != 3) = true := by simpa using h3
    rw [show decide (knd t i = 3) = false by simp [h3]]
    simp only [Bool.false_and]
    clear h3
    go_enter Tryz.func260, Tryz.ntmps260
    go_wp2_with fail
    go_ret
    first | exact ⟨rfl, Below.refl _ _⟩ | exact ⟨rfl, HB.out⟩

end Go.Proofs.YteaapgijeehhfaaGreatDoor

namespace Go.Proofs.YteaapgijeehhfaaGreatDoor
open Go.RowKit

/-- p stands somewhere in s, from place k on. -/
def partFrom (s p : List UInt8) (k : Nat) : Bool := (List.range (s.length + 1 - p.length)).any fun i => decide (k ≤ i) && ((s.drop i).take p.length == p)

theorem partFrom_end {s p : List UInt8} {k : Nat} (h : ¬ k + p.length ≤ s.length) : partFrom s p k = false := by
  unfold partFrom
  rw [List.any_eq_false]
  intro i hi
  rw [List.mem_range] at hi
  have : ¬ k ≤ i := by omega
  simp [this]
theorem partFrom_hit {s p : List UInt8} {k : Nat} (h : k + p.length ≤ s.length) (hc : ((s.drop k).take p.length == p) = true) : partFrom s p k = true := by
  unfold partFrom
  rw [List.any_eq_true]
  exact ⟨k, by rw [List.mem_range]; omega, by simp [hc]⟩
theorem partFrom_next {s p : List UInt8} {k : Nat} (hc : ((s.drop k).take p.length == p) = false) : partFrom s p (k + 1) = partFrom s p k := by
  unfold partFrom
  congr 1
  funext i
  by_cases hik : i = k
  · subst hik; rw [hc]; simp
  · by_cases h : k ≤ i
    · have h2 : k + 1 ≤ i := by omega
      simp [h, h2]
    · have h2 : ¬ k + 1 ≤ i := by omega
      simp [h, h2]

set_option maxRecDepth 100000 in
set_option maxHeartbeats 4000000 in
theorem index_any (w : World) (s p : ByteArray) (hs : s.size ≤ 2147483647) (hp : p.size ≤ 2147483647) :
    Calls Tryz.prog 78 #[.string s, .string p] w fun e w' => ∃ n : Int, e = .returned (.int .i64 n) ∧ decide (0 ≤ n) = partFrom (L s) (L p) 0 ∧ -1 ≤ n ∧ n ≤ 2147483647 ∧ w' = w := by
  obtain ⟨R, hR⟩ : ∃ R, partFrom (L s) (L p) 0 = R := ⟨_, rfl⟩
  rw [hR]
  have HR := Lib.hid hR
  clear hR
  go_enter Tryz.func78, Tryz.ntmps78
  go_wp2_with fail
  go_loop [5] (fun t => ∃ k : Nat, t = .int .i64 k ∧ k ≤ s.size + 1 ∧ partFrom (L s) (L p) k = R) (fun t => s.size + 1 - (intOf t).toNat)
  case atStart => exact ⟨0, rfl, by omega, HR.out⟩
  case round =>
    obtain ⟨k, rfl, hk, hpk⟩ := hrel
    by_cases hlt : k + p.size ≤ s.size
    · have hlti : (k : Int) + (p.size : Int) ≤ (s.size : Int) := by omega
      have hsl : L (s.extract k (k + p.size)) = ((L s).drop k).take (L p).length := by rw [L_extract, L_len, List.drop_take]; congr 1; omega
      obtain ⟨b, hb⟩ : ∃ b, ((s.extract k (k + p.size)).toList == p.toList) = b := ⟨_, rfl⟩
      have hb2 : (((L s).drop k).take (L p).length == L p) = b := by rw [← hsl, ← hb, L_toList, L_toList]
      have hlt2 : k + (L p).length ≤ (L s).length := by rw [L_len, L_len]; exact hlt
      cases b
      · have hn := Lib.hid ((partFrom_next hb2).trans hpk)
        clear hb2 hlt2 hsl hpk
        go_wp2_with fail
        go_round
        case rel => exact ⟨k + 1, by go_num, by omega, hn.out⟩
        case measure => simp [intOf]; omega
      · have hn := Lib.hid ((partFrom_hit hlt2 hb2).symm.trans hpk)
        clear hb2 hlt2 hsl hpk
        go_wp2_with fail
        go_ret
        exact ⟨_, rfl, by rw [← hn.out]; simp, by omega, by omega, rfl⟩
    · have hlti : ¬ ((k : Int) + (p.size : Int) ≤ (s.size : Int)) := by omega
      have hn := Lib.hid ((partFrom_end (s := L s) (p := L p) (k := k) (by rw [L_len, L_len]; exact hlt)).symm.trans hpk)
      clear hpk hlt
      go_wp2_with fail
      go_ret
      exact ⟨-1, rfl, by rw [← hn.out]; decide, by omega, by omega, rfl⟩

set_option maxRecDepth 100000 in
set_option maxHeartbeats 2000000 in
theorem contains_any (w : World) (s p : ByteArray) (hs : s.size ≤ 2147483647) (hp : p.size ≤ 2147483647) :
    Calls Tryz.prog 213 #[.string s, .string p] w fun e w' => e = .returned (.bool (partFrom (L s) (L p) 0)) ∧ w' = w := by
  have HC := Lib.hid (index_any w s p hs hp)
  obtain ⟨R, hR⟩ : ∃ R, partFrom (L s) (L p) 0 = R := ⟨_, rfl⟩
  rw [hR] at HC ⊢
  clear hR
  go_enter Tryz.func213, Tryz.ntmps213
  go_wp2_with (go_at_call 78; refine HC.out.mono ?_; rintro e w2 ⟨n, rfl, hn, h1, h2, rfl⟩; have HN := Lib.hid hn; clear hn)
  go_ret
  exact ⟨ret_bool HN.out, rfl⟩

end Go.Proofs.YteaapgijeehhfaaGreatDoor
