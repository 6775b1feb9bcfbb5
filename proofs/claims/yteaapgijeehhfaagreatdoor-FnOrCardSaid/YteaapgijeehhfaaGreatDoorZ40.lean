/- What impl.Match answers of selectors that are written: alone, behind ':not', two groups side by side. -/
/- laws.both: the selectors and the tree, and whether something is stated of them. -/
/- FnNot: an element matches just one of selectors and what does not match them. -/
import Derived.Test.YteaapgijeehhfaaGreatDoorZ31
import Derived.Test.YteaapgijeehhfaaGreatDoorZ39
import Derived.Test.YteaapgijeehhfaaGreatDoorZ30
import Derived.Test.YteaapgijeehhfaaGreatDoorZ35
import Derived.Test.YteaapgijeehhfaaGreatDoorZ36
import Derived.Test.YteaapgijeehhfaaGreatDoorZ37
set_option linter.unusedSimpArgs false
set_option linter.unusedVariables false
namespace Go.Proofs.YteaapgijeehhfaaGreatDoor
open Go.RowKit

def MatchPost (r : Bool) (w : World) (e : Ending) (w' : World) : Prop := e = .returned (.tuple #[.bool r, .bool true]) ∧ Below w.heap.size w w'

section
variable (T : Nat → Int) (w : World) (X : Nat → Prop) (v : Value) (nl : List Nd) (h : RTI X w v nl) (hok : okNds nl) (hlen : nl.length ≤ 1000) (i : Nat) (hi : i < nl.length) (hT : Tbl w T)
include h hok hlen hi hT

theorem match_g (g : Group) (hg : okG 3 g) (s : ByteArray) (hs : L s = wG 3 g) : Calls Tryz.prog 12 #[.string s, v, .int .i64 i] w (MatchPost (answer T nl 3 g i) w) := by
  have hsz : s.size ≤ 140737488351232 := by
    have h1 := wG_len 3 g hg
    have h2 : capG 3 ≤ 1000000000 := by decide
    rw [size_of_L hs]; omega
  cases g with
  | nil => exact absurd hg.len.1 (by simp)
  | cons c0 l =>
    have hll := hg.len.2
    simp only [List.length_cons] at hll
    have hm := match_any T 2 (by omega) w c0 (l.map fun c => ([32], c)) s (by rw [hs]; exact wItems_gr _ _ _) hsz (hg.each 0 (by simp))
      (by
        intro it hit
        obtain ⟨c, hc, rfl⟩ := List.mem_map.1 hit
        obtain ⟨k, hk, rfl⟩ := List.mem_iff_getElem.1 hc
        exact ⟨.inr rfl, by have := hg.each (k + 1) (by simpa using hk); simpa using this⟩)
      (by rw [List.length_map]; omega) X v nl h hok hlen i hi hT
    have hmap : (l.map fun c => (([32] : List UInt8), c)).map Prod.snd = l := by rw [List.map_map]; exact List.map_id l
    rw [hmap] at hm
    exact hm

theorem match_not (g : Group) (hg : okG 3 g) (s : ByteArray) (hs : L s = [58, 110, 111, 116, 40] ++ (wG 3 g ++ [41])) :
    Calls Tryz.prog 12 #[.string s, v, .int .i64 i] w (MatchPost (isEl (treeOf nl) i && !(answer T nl 3 g i)) w) := by
  have hsz : s.size ≤ 140737488351232 := by
    have h1 := wG_len 3 g hg
    have h2 : capG 3 ≤ 1000000000 := by decide
    rw [size_of_L hs, List.length_append, List.length_append]; simp; omega
  have hsm : okSm (okG 3) (Simple.mk 14 ⟨#[]⟩ ⟨#[]⟩ false 0 0 false false g) :=
    ⟨⟨by show (0 : Int) ≤ 14; omega, by show (14 : Int) ≤ 16; omega⟩, fun _ _ _ _ h5 _ => absurd rfl h5, fun hv => by have : (5 ≤ (14 : Int) ∧ (14 : Int) ≤ 10) ∨ (14 : Int) = 16 := hv; omega, fun hf => by exact absurd hf (by show ¬ false = true; simp), fun hn => by have : (14 : Int) = 11 := hn; omega, fun _ => hg⟩
  have hcx : okCx (okG 3) [(⟨#[]⟩, [Simple.mk 14 ⟨#[]⟩ ⟨#[]⟩ false 0 0 false false g])] := by
    refine ⟨⟨by simp, by simp⟩, fun k hk => ?_⟩
    have h0 : k = 0 := by simpa using hk
    subst h0
    refine ⟨⟨⟨by simp, by simp⟩, fun j hj => ?_⟩, fun h => by omega⟩
    have h0 : j = 0 := by simpa using hj
    subst h0
    exact ⟨hsm, fun h => by omega⟩
  have hw : L s = wItems (wG 3) [(⟨#[]⟩, [Simple.mk 14 ⟨#[]⟩ ⟨#[]⟩ false 0 0 false false g])] [] := by
    rw [hs]
    show _ = (([58, 110, 111, 116, 40] ++ (wG 3 g ++ [41])) ++ []) ++ [] ++ []
    simp
  have hm := match_any T 3 (by omega) w [(⟨#[]⟩, [Simple.mk 14 ⟨#[]⟩ ⟨#[]⟩ false 0 0 false false g])] [] s hw hsz hcx (by intro it hit; simp at hit) (by simp) X v nl h hok hlen i hi hT
  have ha : answer T nl (3 + 1) ([(⟨#[]⟩, [Simple.mk 14 ⟨#[]⟩ ⟨#[]⟩ false 0 0 false false g])] :: (([] : List (List UInt8 × Complex)).map Prod.snd)) i = (isEl (treeOf nl) i && !(answer T nl 3 g i)) := by
    show ((mNot (treeOf nl) (mG T (treeOf nl) 3 g) i) || false) = _
    rw [Bool.or_false]; rfl
  rw [ha] at hm
  exact hm

theorem match_or (g1 g2 : Group) (hg1 : okG 3 g1) (hg2 : okG 3 g2) (s : ByteArray) (hs : L s = wG 3 g1 ++ ([44] ++ wG 3 g2)) :
    Calls Tryz.prog 12 #[.string s, v, .int .i64 i] w (MatchPost (answer T nl 3 g1 i || answer T nl 3 g2 i) w) := by
  have hsz : s.size ≤ 140737488351232 := by
    have h1 := wG_len 3 g1 hg1
    have h3 := wG_len 3 g2 hg2
    have h2 : capG 3 ≤ 1000000000 := by decide
    rw [size_of_L hs, List.length_append, List.length_append]; simp; omega
  cases g1 with
  | nil => exact absurd hg1.len.1 (by simp)
  | cons c1 l1 =>
    cases g2 with
    | nil => exact absurd hg2.len.1 (by simp)
    | cons c2 l2 =>
      have hl1 := hg1.len.2
      have hl2 := hg2.len.2
      simp only [List.length_cons] at hl1 hl2
      have hw : L s = wItems (wG 2) c1 ((l1.map fun c => ([32], c)) ++ (([], c2) :: (l2.map fun c => ([32], c)))) := by
        rw [hs]
        have e1 : wG 3 (c1 :: l1) = wItems (wG 2) c1 (l1.map fun c => ([32], c)) := wItems_gr _ _ _
        have e2 : wG 3 (c2 :: l2) = wItems (wG 2) c2 (l2.map fun c => ([32], c)) := wItems_gr _ _ _
        rw [e1, e2]
        unfold wItems
        simp
      have hm := match_any T 2 (by omega) w c1 _ s hw hsz (hg1.each 0 (by simp))
        (by
          intro it hit
          rcases List.mem_append.1 hit with hit | hit
          · obtain ⟨c, hc, rfl⟩ := List.mem_map.1 hit
            obtain ⟨k, hk, rfl⟩ := List.mem_iff_getElem.1 hc
            exact ⟨.inr rfl, by have := hg1.each (k + 1) (by simpa using hk); simpa using this⟩
          · rcases List.mem_cons.1 hit with rfl | hit
            · exact ⟨.inl rfl, hg2.each 0 (by simp)⟩
            · obtain ⟨c, hc, rfl⟩ := List.mem_map.1 hit
              obtain ⟨k, hk, rfl⟩ := List.mem_iff_getElem.1 hc
              exact ⟨.inr rfl, by have := hg2.each (k + 1) (by simpa using hk); simpa using this⟩)
        (by simp; omega) X v nl h hok hlen i hi hT
      have hmap : ((l1.map fun c => (([32] : List UInt8), c)) ++ (([], c2) :: (l2.map fun c => ([32], c)))).map Prod.snd = l1 ++ c2 :: l2 := by
        rw [List.map_append, List.map_map, List.map_cons, List.map_map]
        have e : ∀ l : List Complex, l.map (Prod.snd ∘ fun c => (([32] : List UInt8), c)) = l := fun l => List.map_id l
        rw [e, e]
      rw [hmap] at hm
      have ha : answer T nl (2 + 1) (c1 :: (l1 ++ c2 :: l2)) i = (answer T nl 3 (c1 :: l1) i || answer T nl 3 (c2 :: l2) i) := by
        unfold answer
        show ((List.map (mCx T (treeOf nl) (mG T (treeOf nl) 2)) ((c1 :: l1) ++ (c2 :: l2))).any fun m => m i) = _
        rw [List.map_append, List.any_append]; rfl
      rw [ha] at hm
      exact hm
end

theorem isEl_kind {nl : List Nd} {i : Nat} (hi : i < nl.length) : isEl (treeOf nl) i = decide (nl[i].kind = 3) := by
  unfold isEl; rw [treeOf_kind nl i hi]
theorem answer_el {T : Nat → Int} {nl : List Nd} {D : Nat} {g : Group} {i : Nat} (h : answer T nl D g i = true) : isEl (treeOf nl) i = true := mG_el_of h

end Go.Proofs.YteaapgijeehhfaaGreatDoor

namespace Go.Proofs.YteaapgijeehhfaaGreatDoor
open Go.RowKit

def BothPost (d : Nat) (g : Group) (nl : List Nd) (w : World) (e : Ending) (w' : World) : Prop :=
  ∃ ga gc na nc r, e = .returned (.tuple #[.slice ga g.length gc, .slice na nl.length nc, .bool r]) ∧ RG d (fun k => w.heap.size ≤ k) w' (.slice ga g.length gc) g ∧ RT (fun k => w.heap.size ≤ k) w' (.slice na nl.length nc) nl ∧
    (r = true → okG 3 g ∧ okNds nl ∧ nl.length ≤ 24) ∧ Below w.heap.size w w'

theorem specGroup3 (X : Nat → Prop) (w : World) (v : Value) (g : Group) (d : Nat) (h : RG d X w v g) : Calls Tryz.prog 24 #[v, .int .i64 3] w (OkPost (okG 3 g) w) := specGroup_any 3 X w v g (by omega) (by omega) d h

set_option maxRecDepth 100000 in
set_option maxHeartbeats 4000000 in
theorem both_any (d : Nat) (X X' : Nat → Prop) (w : World) (v tv : Value) (g : Group) (nl : List Nd) (h : RGI d X w v g) (ht : RTI X' w tv nl) :
    Calls Tryz.prog 11 #[v, tv] w (BothPost d g nl w) := by
  have HG := Lib.hid (group_any d X w v g h)
  have HT := Lib.hid ht
  clear h ht
  go_enter Tryz.func11, Tryz.ntmps11
  go_wp2_with (go_at_call 22; refine HG.out.mono ?_; rintro e w1 ⟨ga, gn, gc, rfl, hg, hb1⟩; obtain ⟨_, _, he⟩ := RG.val hg; simp only [Value.slice.injEq] at he; obtain ⟨he1, rfl, he2⟩ := he; clear he1 he2; have HGR := Lib.hid hg; have HB1 := Lib.hid hb1; clear hg hb1)
  refine (nodes_any X' w1 tv nl (RTI.rep.keep (KeepX.of_all HB1.out) HT.out)).mono ?_
  rintro e w2 ⟨na, nc, rfl, hn, hb2⟩
  have HNR := Lib.hid hn
  have HB2 := Lib.hid (below_step HB1.out hb2)
  have HGR2 := Lib.hid ((RG.rep d).keep (KeepX.of_all hb2) HGR.out)
  have HS1 := Lib.hid HB1.out.size
  clear hn hb2
  go_wp2_with fail
  refine (specGroup3 _ w2 _ g d HGR2.out).mono ?_
  rintro e w3 ⟨r, rfl, hr, hb3⟩
  have HR := Lib.hid hr
  have HB3 := Lib.hid (below_step HB2.out hb3)
  have HGR3 := Lib.hid ((RG.rep d).keep (KeepX.of_all hb3) HGR2.out)
  have HNR3 := Lib.hid (RT.rep.keep (KeepX.of_all hb3) HNR.out)
  clear hr hb3
  cases r
  · go_wp2_with fail
    exact bodyPost_ret (v := .tuple #[.slice ga g.length gc, .slice na nl.length nc, .bool false]) (by simp [results, Tryz.results11, go_sem]) rfl ⟨ga, gc, na, nc, false, rfl, HGR3.out, RT.rep.mono (fun k hk => Nat.le_trans HS1.out hk) HNR3.out, fun h => by simp at h, HB3.out⟩
  · go_wp2_with fail
    refine (specTree_any _ w3 _ nl HNR3.out).mono ?_
    rintro e w4 ⟨r2, rfl, hr2, hb4⟩
    have HR2 := Lib.hid hr2
    have HB4 := Lib.hid (below_step HB3.out hb4)
    have HGR4 := Lib.hid ((RG.rep d).keep (KeepX.of_all hb4) HGR3.out)
    have HNR4 := Lib.hid (RT.rep.keep (KeepX.of_all hb4) HNR3.out)
    clear hr2 hb4
    cases r2
    · go_wp2_with fail
      exact bodyPost_ret (v := .tuple #[.slice ga g.length gc, .slice na nl.length nc, .bool false]) (by simp [results, Tryz.results11, go_sem]) rfl ⟨ga, gc, na, nc, false, rfl, HGR4.out, RT.rep.mono (fun k hk => Nat.le_trans HS1.out hk) HNR4.out, fun h => by simp at h, HB4.out⟩
    · go_wp2_with fail
      exact bodyPost_ret (v := .tuple #[.slice ga g.length gc, .slice na nl.length nc, .bool true]) (by simp [results, Tryz.results11, go_sem]) rfl ⟨ga, gc, na, nc, true, rfl, HGR4.out, RT.rep.mono (fun k hk => Nat.le_trans HS1.out hk) HNR4.out, fun _ => ⟨HR.out trivial, (HR2.out trivial).1, (HR2.out trivial).2.2⟩, HB4.out⟩

end Go.Proofs.YteaapgijeehhfaaGreatDoor

namespace Go.Proofs.YteaapgijeehhfaaGreatDoor
open Go.RowKit

def YesPost (w : World) (e : Ending) (w' : World) : Prop := e = .returned (.bool true) ∧ Below w.heap.size w w'

set_option maxRecDepth 100000 in
set_option maxHeartbeats 8000000 in
theorem fnNot_any (T : Nat → Int) (d : Nat) (X X' : Nat → Prop) (w : World) (v tv : Value) (g : Group) (nl : List Nd) (h : RGI d X w v g) (ht : RTI X' w tv nl) (hT : Tbl w T) :
    Calls Tryz.prog 4 #[v, tv] w (YesPost w) := by
  have HG := Lib.hid h
  have HN := Lib.hid ht
  have HT := Lib.hid hT
  obtain ⟨a, cap, rfl⟩ := RGI.val h
  obtain ⟨ta, tcap, rfl, htl⟩ := SlI.len ht (by omega)
  have HF := Lib.hid (fits1_any X' w _ nl ht)
  clear h ht hT
  by_cases hz : 2147483647 < g.length
  · have hzi : 2147483647 < (g.length : Int) := by omega
    go_enter Tryz.func4, Tryz.ntmps4
    go_wp2_with fail
    go_ret
    exact ⟨rfl, Below.refl _ _⟩
  have hzi : ¬ 2147483647 < (g.length : Int) := by omega
  go_enter Tryz.func4, Tryz.ntmps4
  go_wp2_with (first
    | (go_at_call 10; refine HF.out.mono ?_; rintro e w1 ⟨r, rfl, _, hb1⟩; have HB1 := Lib.hid hb1; clear hb1; cases r)
    | (go_at_call 11; refine (both_any d X X' w1 _ _ g nl ((RGI.rep d).keep (KeepX.of_all HB1.out) HG.out) (RTI.rep.keep (KeepX.of_all HB1.out) HN.out)).mono ?_; rintro e w2 ⟨ga, gc, na, nc, r2, rfl, hg, hn, hr, hb2⟩; have HG2 := Lib.hid hg; have HN2 := Lib.hid hn; have HR := Lib.hid hr; have HB2 := Lib.hid (below_step HB1.out hb2); clear hg hn hr hb2; cases r2))
  · go_ret
    exact ⟨rfl, HB1.out⟩
  · go_ret
    exact ⟨rfl, HB2.out⟩
  obtain ⟨hok, hnds, hlen⟩ := HR.out trivial
  have HOK := Lib.hid hok
  have HNDS := Lib.hid hnds
  have HV := Lib.hid (SlX.view HN2.out (by omega))
  obtain ⟨wb, hwb⟩ : ∃ wb : World, wb = w2 := ⟨_, rfl⟩
  subst hwb
  clear hok hnds
  go_loopw [33] (fun i wr => ∃ k : Nat, k ≤ nl.length ∧ i = .int .i64 k ∧ Below wb.heap.size wb wr) (fun i _ => nl.length - (intOf i).toNat)
  case atStart => exact ⟨0, Nat.zero_le _, rfl, Below.refl _ _⟩
  case round =>
    obtain ⟨k, hk, rfl, hb⟩ := hrel
    by_cases hlt : k < nl.length
    · rcases HV.out with ⟨rfl, _⟩ | ⟨b, o, cap', hve, hX, _, hcb, _, hc⟩
      · simp at hlt
      · simp only [Value.slice.injEq, true_and] at hve
        obtain ⟨rfl, rfl⟩ := hve
        obtain ⟨cs, hcs1, hcs2, av, hcs3, hz1, hz2, hz3, hSl⟩ := hc k hlt
        subst hcs3
        have f0 := cell_keep hb (by simpa using hcs2 0 _ rfl)
        have f1 := cell_keep hb (by simpa using hcs2 1 _ rfl)
        have f2 := cell_keep hb (by simpa using hcs2 2 _ rfl)
        have f3 := cell_keep hb (by simpa using hcs2 3 _ rfl)
        clear hcs1 hcs2 hc
        have hel := isEl_kind hlt
        obtain ⟨n, hnd⟩ : ∃ n, nl[k] = n := ⟨_, rfl⟩
        rw [hnd] at f0 f1 f2 hel hSl
        obtain ⟨ava, avc, rfl, _⟩ := SlX.len hSl (by omega)
        have hb3 := hb.alloc hb.size (.cells #[.int .i64 n.parent, .int .i64 n.kind, .string n.data, .slice ava n.attrs.length avc] 36)
        have HB3 := Lib.hid hb3
        have s1 : (wr.alloc (.cells #[.int .i64 n.parent, .int .i64 n.kind, .string n.data, .slice ava n.attrs.length avc] 36)).cell? ⟨wr.heap.size, 1, none⟩ = some (.int .i64 n.kind) := by rw [cell_of_heap (heap_alloc_new wr _)]; rfl
        have S1 := Lib.hid s1
        have hwl : (wG 3 g).length ≤ 1000000000 := by
          have h1 := wG_len 3 g HOK.out
          have h2 : capG 3 ≤ 1000000000 := by decide
          omega
        have HW := Lib.hid (fun (W : World) (hW : Below wb.heap.size wb W) => specWrite_any 3 _ W _ g d (by omega) ((RG.rep d).keep (KeepX.of_all hW) HG2.out) HOK.out)
        have HM := Lib.hid (fun (W : World) (hW : Below wb.heap.size wb W) (s : ByteArray) (hs : L s = wG 3 g) => match_g T W X' _ nl (RTI.rep.keep (KeepX.of_all (below_step HB2.out hW)) HN.out) HNDS.out (by omega) k hlt (HT.out.keep (below_step HB2.out hW)) g HOK.out s hs)
        have HMN := Lib.hid (fun (W : World) (hW : Below wb.heap.size wb W) (s : ByteArray) (hs : L s = [58, 110, 111, 116, 40] ++ (wG 3 g ++ [41])) => match_not T W X' _ nl (RTI.rep.keep (KeepX.of_all (below_step HB2.out hW)) HN.out) HNDS.out (by omega) k hlt (HT.out.keep (below_step HB2.out hW)) g HOK.out s hs)
        obtain ⟨t, htx⟩ : ∃ t, bs (wG 3 g) = t := ⟨_, rfl⟩
        have hts : t.size ≤ 1000000000 := by rw [← htx, bs_size]; exact hwl
        have hLt : L t = wG 3 g := by rw [← htx, L_bs]
        unfold WritePost at HW
        rw [htx] at HW
        have HLT := Lib.hid hLt
        have HLN := Lib.hid (show L ((⟨#[58, 110, 111, 116, 40]⟩ : ByteArray) ++ t ++ ⟨#[41]⟩) = [58, 110, 111, 116, 40] ++ (wG 3 g ++ [41]) by simp only [L_append, hLt, List.append_assoc]; rfl)
        have hcase : (n.kind = 3 ∧ answer T nl 3 g k = true ∧ (isEl (treeOf nl) k && !(answer T nl 3 g k)) = false) ∨ (n.kind = 3 ∧ answer T nl 3 g k = false ∧ (isEl (treeOf nl) k && !(answer T nl 3 g k)) = true) ∨
            (n.kind ≠ 3 ∧ answer T nl 3 g k = false ∧ (isEl (treeOf nl) k && !(answer T nl 3 g k)) = false) := by
          by_cases h3 : n.kind = 3
          · cases hA : answer T nl 3 g k with
            | true => exact .inl ⟨h3, rfl, by simp⟩
            | false => exact .inr (.inl ⟨h3, rfl, by rw [hel]; simp [h3]⟩)
          · have hA : answer T nl 3 g k = false := by
              cases hA : answer T nl 3 g k with
              | false => rfl
              | true => have := answer_el hA; rw [hel] at this; simp [h3] at this
            exact .inr (.inr ⟨h3, hA, by rw [hel]; simp [h3]⟩)
        clear hb hb3 hSl hnd hel s1 htx hLt hwl
        rcases hcase with ⟨h3, hA, hBn⟩ | ⟨h3, hA, hBn⟩ | ⟨h3, hA, hBn⟩
        · rw [hA] at HM
          rw [hBn] at HMN
          have e3 : (n.kind == 3) = true ∧ (n.kind != 3) = false := by simp [h3]
          obtain ⟨e3, e3'⟩ := e3
          clear h3 hA hBn
          go_wp2_with fail
          refine (HW.out _ HB3.out).mono ?_
          rintro e w4 ⟨rfl, hb4⟩
          have HB4 := Lib.hid (below_step HB3.out hb4)
          have S4 := Lib.hid (cell_keep hb4 S1.out)
          clear hb4
          go_wp2_with fail
          refine (HM.out _ HB4.out t HLT.out).mono ?_
          rintro e w5 ⟨rfl, hb5⟩
          have HB5 := Lib.hid (below_step HB4.out hb5)
          have S5 := Lib.hid (cell_keep hb5 S4.out)
          clear hb5
          go_wp2_with fail
          refine (HW.out _ HB5.out).mono ?_
          rintro e w6 ⟨rfl, hb6⟩
          have HB6 := Lib.hid (below_step HB5.out hb6)
          have S6 := Lib.hid (cell_keep hb6 S5.out)
          clear hb6
          go_wp2_with fail
          refine (HMN.out _ HB6.out _ HLN.out).mono ?_
          rintro e w7 ⟨rfl, hb7⟩
          have HB7 := Lib.hid (below_step HB6.out hb7)
          have s7 := cell_keep hb7 S6.out
          clear hb7
          go_wp2_with fail
          go_roundw
          case rel => exact ⟨k + 1, by omega, by go_num, HB7.out⟩
          case measure => simp [intOf]; omega
        · rw [hA] at HM
          rw [hBn] at HMN
          have e3 : (n.kind == 3) = true ∧ (n.kind != 3) = false := by simp [h3]
          obtain ⟨e3, e3'⟩ := e3
          clear h3 hA hBn
          go_wp2_with fail
          refine (HW.out _ HB3.out).mono ?_
          rintro e w4 ⟨rfl, hb4⟩
          have HB4 := Lib.hid (below_step HB3.out hb4)
          have S4 := Lib.hid (cell_keep hb4 S1.out)
          clear hb4
          go_wp2_with fail
          refine (HM.out _ HB4.out t HLT.out).mono ?_
          rintro e w5 ⟨rfl, hb5⟩
          have HB5 := Lib.hid (below_step HB4.out hb5)
          have S5 := Lib.hid (cell_keep hb5 S4.out)
          clear hb5
          go_wp2_with fail
          refine (HW.out _ HB5.out).mono ?_
          rintro e w6 ⟨rfl, hb6⟩
          have HB6 := Lib.hid (below_step HB5.out hb6)
          have S6 := Lib.hid (cell_keep hb6 S5.out)
          clear hb6
          go_wp2_with fail
          refine (HMN.out _ HB6.out _ HLN.out).mono ?_
          rintro e w7 ⟨rfl, hb7⟩
          have HB7 := Lib.hid (below_step HB6.out hb7)
          have s7 := cell_keep hb7 S6.out
          clear hb7
          go_wp2_with fail
          go_roundw
          case rel => exact ⟨k + 1, by omega, by go_num, HB7.out⟩
          case measure => simp [intOf]; omega
        · rw [hA] at HM
          rw [hBn] at HMN
          have e3 : (n.kind == 3) = false ∧ (n.kind != 3) = true := by simp [h3]
          obtain ⟨e3, e3'⟩ := e3
          clear h3 hA hBn
          go_wp2_with fail
          refine (HW.out _ HB3.out).mono ?_
          rintro e w4 ⟨rfl, hb4⟩
          have HB4 := Lib.hid (below_step HB3.out hb4)
          have S4 := Lib.hid (cell_keep hb4 S1.out)
          clear hb4
          go_wp2_with fail
          refine (HM.out _ HB4.out t HLT.out).mono ?_
          rintro e w5 ⟨rfl, hb5⟩
          have HB5 := Lib.hid (below_step HB4.out hb5)
          have S5 := Lib.hid (cell_keep hb5 S4.out)
          clear hb5
          go_wp2_with fail
          refine (HW.out _ HB5.out).mono ?_
          rintro e w6 ⟨rfl, hb6⟩
          have HB6 := Lib.hid (below_step HB5.out hb6)
          have S6 := Lib.hid (cell_keep hb6 S5.out)
          clear hb6
          go_wp2_with fail
          refine (HMN.out _ HB6.out _ HLN.out).mono ?_
          rintro e w7 ⟨rfl, hb7⟩
          have HB7 := Lib.hid (below_step HB6.out hb7)
          have s7 := cell_keep hb7 S6.out
          clear hb7
          go_wp2_with fail
          go_roundw
          case rel => exact ⟨k + 1, by omega, by go_num, HB7.out⟩
          case measure => simp [intOf]; omega
    · have HB := Lib.hid (below_step HB2.out hb)
      clear hb
      go_wp2_with fail
      go_ret
      exact ⟨rfl, HB.out⟩

end Go.Proofs.YteaapgijeehhfaaGreatDoor
