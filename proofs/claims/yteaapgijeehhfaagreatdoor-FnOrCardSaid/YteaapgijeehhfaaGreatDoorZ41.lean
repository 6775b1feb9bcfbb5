/- FnOr: a group matches where one of its selectors does; printed by genor.py. -/
/- The arguments, read off the form of the statements: a group of selectors. -/
/- What is read off the arguments stays where a function makes new memory alone; the table of blanks. -/
import Derived.Test.YteaapgijeehhfaaGreatDoorZ40
import Derived.Test.YteaapgijeehhfaaGreatDoorZ28
import Derived.Deep.Slices
import Derived.SizedLaws
import Derived.Test.YteaapgijeehhfaaGreatDoorRows
import Derived.ProofKit
import Derived.OpenShut
import Derived.Deep.DeepHandedRow
import Derived.ChangeStays
import Derived.ChangeBook
set_option linter.unusedSimpArgs false
set_option linter.unusedVariables false
namespace Go.Proofs.YteaapgijeehhfaaGreatDoor
open Go.RowKit

set_option maxRecDepth 100000 in
set_option maxHeartbeats 8000000 in
theorem fnOr_any (T : Nat → Int) (d d2 : Nat) (X X2 X' : Nat → Prop) (w : World) (v v2 tv : Value) (g h : Group) (nl : List Nd) (hg : RGI d X w v g) (hh : RGI d2 X2 w v2 h) (ht : RTI X' w tv nl) (hT : Tbl w T) :
    Calls Tryz.prog 5 #[v, v2, tv] w (YesPost w) := by
  have HG := Lib.hid hg
  have HH := Lib.hid hh
  have HN := Lib.hid ht
  have HT := Lib.hid hT
  obtain ⟨a, cap, rfl⟩ := RGI.val hg
  obtain ⟨a2, cap2, rfl⟩ := RGI.val hh
  obtain ⟨ta, tcap, rfl, htl⟩ := SlI.len ht (by omega)
  have HF := Lib.hid (fits1_any X' w _ nl ht)
  clear hg hh ht hT
  by_cases hz : 2147483647 < g.length
  · have hzi : 2147483647 < (g.length : Int) := by omega
    go_enter Tryz.func5, Tryz.ntmps5
    go_wp2_with fail
    go_ret
    exact ⟨rfl, Below.refl _ _⟩
  have hzi : ¬ 2147483647 < (g.length : Int) := by omega
  by_cases hz2 : 2147483647 < h.length
  · have hzi2 : 2147483647 < (h.length : Int) := by omega
    go_enter Tryz.func5, Tryz.ntmps5
    go_wp2_with fail
    go_ret
    exact ⟨rfl, Below.refl _ _⟩
  have hzi2 : ¬ 2147483647 < (h.length : Int) := by omega
  go_enter Tryz.func5, Tryz.ntmps5
  go_wp2_with fail
  refine HF.out.mono ?_
  rintro e w1 ⟨r, rfl, _, hb1⟩
  have HB1 := Lib.hid hb1
  clear hb1
  cases r
  · go_wp2_with fail
    go_ret
    exact ⟨rfl, HB1.out⟩
  go_wp2_with fail
  refine (both_any d X X' w1 _ _ g nl ((RGI.rep d).keep (KeepX.of_all HB1.out) HG.out) (RTI.rep.keep (KeepX.of_all HB1.out) HN.out)).mono ?_
  rintro e w2 ⟨ga, gc, na, nc, r2, rfl, hg, hn, hr, hb2⟩
  have HG2 := Lib.hid hg
  have HR := Lib.hid hr
  have HB2 := Lib.hid (below_step HB1.out hb2)
  clear hg hn hr hb2
  go_wp2_with fail
  refine (both_any d2 X2 X' w2 _ _ h nl ((RGI.rep d2).keep (KeepX.of_all HB2.out) HH.out) (RTI.rep.keep (KeepX.of_all HB2.out) HN.out)).mono ?_
  rintro e w3 ⟨gb, gd, nb, nd, r3, rfl, hg, hn, hr, hb3⟩
  have HH2 := Lib.hid hg
  have HN2 := Lib.hid hn
  have HR3 := Lib.hid hr
  have HG3 := Lib.hid ((RG.rep d).keep (KeepX.of_all hb3) HG2.out)
  have HB3' := Lib.hid (below_step HB2.out hb3)
  clear hg hn hr hb3
  cases r2
  · go_wp2_with fail
    go_ret
    exact ⟨rfl, HB3'.out⟩
  cases r3
  · go_wp2_with fail
    go_ret
    exact ⟨rfl, HB3'.out⟩
  go_wp2_with fail
  obtain ⟨hok, hnds, hlen⟩ := HR.out trivial
  obtain ⟨hok2, _, _⟩ := HR3.out trivial
  have HOK := Lib.hid hok
  have HOK2 := Lib.hid hok2
  have HNDS := Lib.hid hnds
  obtain ⟨wb, hwb⟩ : ∃ wb : World, wb = w3 := ⟨_, rfl⟩
  subst hwb
  clear hok hok2 hnds
  go_loopw [55] (fun i wr => ∃ k : Nat, k ≤ nl.length ∧ i = .int .i64 k ∧ Below wb.heap.size wb wr) (fun i _ => nl.length - (intOf i).toNat)
  case atStart => exact ⟨0, Nat.zero_le _, rfl, Below.refl _ _⟩
  case round =>
    obtain ⟨k, hk, rfl, hb⟩ := hrel
    have HB3 := Lib.hid hb
    by_cases hlt : k < nl.length
    · have hwl : (wG 3 g).length ≤ 1000000000 := by
        have h1 := wG_len 3 g HOK.out
        have h2 : capG 3 ≤ 1000000000 := by decide
        omega
      have hwl2 : (wG 3 h).length ≤ 1000000000 := by
        have h1 := wG_len 3 h HOK2.out
        have h2 : capG 3 ≤ 1000000000 := by decide
        omega
      have HWG := Lib.hid (fun (W : World) (hW : Below wb.heap.size wb W) => specWrite_any 3 _ W _ g d (by omega) ((RG.rep d).keep (KeepX.of_all hW) HG3.out) HOK.out)
      have HWH := Lib.hid (fun (W : World) (hW : Below wb.heap.size wb W) => specWrite_any 3 _ W _ h d2 (by omega) ((RG.rep d2).keep (KeepX.of_all hW) HH2.out) HOK2.out)
      have HMG := Lib.hid (fun (W : World) (hW : Below wb.heap.size wb W) (s : ByteArray) (hs : L s = wG 3 g) => match_g T W X' _ nl (RTI.rep.keep (KeepX.of_all (below_step HB3'.out hW)) HN.out) HNDS.out (by omega) k hlt (HT.out.keep (below_step HB3'.out hW)) g HOK.out s hs)
      have HMH := Lib.hid (fun (W : World) (hW : Below wb.heap.size wb W) (s : ByteArray) (hs : L s = wG 3 h) => match_g T W X' _ nl (RTI.rep.keep (KeepX.of_all (below_step HB3'.out hW)) HN.out) HNDS.out (by omega) k hlt (HT.out.keep (below_step HB3'.out hW)) h HOK2.out s hs)
      have HMO := Lib.hid (fun (W : World) (hW : Below wb.heap.size wb W) (s : ByteArray) (hs : L s = wG 3 g ++ ([44] ++ wG 3 h)) => match_or T W X' _ nl (RTI.rep.keep (KeepX.of_all (below_step HB3'.out hW)) HN.out) HNDS.out (by omega) k hlt (HT.out.keep (below_step HB3'.out hW)) g h HOK.out HOK2.out s hs)
      obtain ⟨t, htx⟩ : ∃ t, bs (wG 3 g) = t := ⟨_, rfl⟩
      obtain ⟨u, hux⟩ : ∃ u, bs (wG 3 h) = u := ⟨_, rfl⟩
      have hts : t.size ≤ 1000000000 := by rw [← htx, bs_size]; exact hwl
      have hus : u.size ≤ 1000000000 := by rw [← hux, bs_size]; exact hwl2
      have hLt : L t = wG 3 g := by rw [← htx, L_bs]
      have hLu : L u = wG 3 h := by rw [← hux, L_bs]
      unfold WritePost at HWG HWH
      rw [htx] at HWG
      rw [hux] at HWH
      have HLT := Lib.hid hLt
      have HLU := Lib.hid hLu
      have HLO := Lib.hid (show L (t ++ (⟨#[44]⟩ : ByteArray) ++ u) = wG 3 g ++ ([44] ++ wG 3 h) by simp only [L_append, hLt, hLu, List.append_assoc]; rfl)
      obtain ⟨A, hA⟩ : ∃ A, answer T nl 3 g k = A := ⟨_, rfl⟩
      obtain ⟨B, hB⟩ : ∃ B, answer T nl 3 h k = B := ⟨_, rfl⟩
      rw [hA, hB] at HMO
      rw [hA] at HMG
      rw [hB] at HMH
      clear hb htx hux hLt hLu hwl hwl2 hA hB
      cases A
      · cases B
        · go_wp2_with fail
          refine (HWG.out _ HB3.out).mono ?_
          rintro e w4 ⟨rfl, hb4⟩
          have HB4 := Lib.hid (below_step HB3.out hb4)
          clear hb4
          go_wp2_with fail
          refine (HMG.out _ HB4.out t HLT.out).mono ?_
          rintro e w5 ⟨rfl, hb5⟩
          have HB5 := Lib.hid (below_step HB4.out hb5)
          clear hb5
          go_wp2_with fail
          refine (HWH.out _ HB5.out).mono ?_
          rintro e w6 ⟨rfl, hb6⟩
          have HB6 := Lib.hid (below_step HB5.out hb6)
          clear hb6
          go_wp2_with fail
          refine (HMH.out _ HB6.out u HLU.out).mono ?_
          rintro e w7 ⟨rfl, hb7⟩
          have HB7 := Lib.hid (below_step HB6.out hb7)
          clear hb7
          go_wp2_with fail
          refine (HWG.out _ HB7.out).mono ?_
          rintro e w8 ⟨rfl, hb8⟩
          have HB8 := Lib.hid (below_step HB7.out hb8)
          clear hb8
          go_wp2_with fail
          refine (HWH.out _ HB8.out).mono ?_
          rintro e w9 ⟨rfl, hb9⟩
          have HB9 := Lib.hid (below_step HB8.out hb9)
          clear hb9
          go_wp2_with fail
          refine (HMO.out _ HB9.out _ HLO.out).mono ?_
          rintro e w10 ⟨rfl, hb10⟩
          have HB10 := Lib.hid (below_step HB9.out hb10)
          clear hb10
          go_wp2_with fail
          go_roundw
          case rel => exact ⟨k + 1, by omega, by go_num, HB10.out⟩
          case measure => simp [intOf]; omega
        · go_wp2_with fail
          refine (HWG.out _ HB3.out).mono ?_
          rintro e w4 ⟨rfl, hb4⟩
          have HB4 := Lib.hid (below_step HB3.out hb4)
          clear hb4
          go_wp2_with fail
          refine (HMG.out _ HB4.out t HLT.out).mono ?_
          rintro e w5 ⟨rfl, hb5⟩
          have HB5 := Lib.hid (below_step HB4.out hb5)
          clear hb5
          go_wp2_with fail
          refine (HWH.out _ HB5.out).mono ?_
          rintro e w6 ⟨rfl, hb6⟩
          have HB6 := Lib.hid (below_step HB5.out hb6)
          clear hb6
          go_wp2_with fail
          refine (HMH.out _ HB6.out u HLU.out).mono ?_
          rintro e w7 ⟨rfl, hb7⟩
          have HB7 := Lib.hid (below_step HB6.out hb7)
          clear hb7
          go_wp2_with fail
          refine (HWG.out _ HB7.out).mono ?_
          rintro e w8 ⟨rfl, hb8⟩
          have HB8 := Lib.hid (below_step HB7.out hb8)
          clear hb8
          go_wp2_with fail
          refine (HWH.out _ HB8.out).mono ?_
          rintro e w9 ⟨rfl, hb9⟩
          have HB9 := Lib.hid (below_step HB8.out hb9)
          clear hb9
          go_wp2_with fail
          refine (HMO.out _ HB9.out _ HLO.out).mono ?_
          rintro e w10 ⟨rfl, hb10⟩
          have HB10 := Lib.hid (below_step HB9.out hb10)
          clear hb10
          go_wp2_with fail
          go_roundw
          case rel => exact ⟨k + 1, by omega, by go_num, HB10.out⟩
          case measure => simp [intOf]; omega
      · cases B
        · go_wp2_with fail
          refine (HWG.out _ HB3.out).mono ?_
          rintro e w4 ⟨rfl, hb4⟩
          have HB4 := Lib.hid (below_step HB3.out hb4)
          clear hb4
          go_wp2_with fail
          refine (HMG.out _ HB4.out t HLT.out).mono ?_
          rintro e w5 ⟨rfl, hb5⟩
          have HB5 := Lib.hid (below_step HB4.out hb5)
          clear hb5
          go_wp2_with fail
          refine (HWH.out _ HB5.out).mono ?_
          rintro e w6 ⟨rfl, hb6⟩
          have HB6 := Lib.hid (below_step HB5.out hb6)
          clear hb6
          go_wp2_with fail
          refine (HMH.out _ HB6.out u HLU.out).mono ?_
          rintro e w7 ⟨rfl, hb7⟩
          have HB7 := Lib.hid (below_step HB6.out hb7)
          clear hb7
          go_wp2_with fail
          refine (HWG.out _ HB7.out).mono ?_
          rintro e w8 ⟨rfl, hb8⟩
          have HB8 := Lib.hid (below_step HB7.out hb8)
          clear hb8
          go_wp2_with fail
          refine (HWH.out _ HB8.out).mono ?_
          rintro e w9 ⟨rfl, hb9⟩
          have HB9 := Lib.hid (below_step HB8.out hb9)
          clear hb9
          go_wp2_with fail
          refine (HMO.out _ HB9.out _ HLO.out).mono ?_
          rintro e w10 ⟨rfl, hb10⟩
          have HB10 := Lib.hid (below_step HB9.out hb10)
          clear hb10
          go_wp2_with fail
          go_roundw
          case rel => exact ⟨k + 1, by omega, by go_num, HB10.out⟩
          case measure => simp [intOf]; omega
        · go_wp2_with fail
          refine (HWG.out _ HB3.out).mono ?_
          rintro e w4 ⟨rfl, hb4⟩
          have HB4 := Lib.hid (below_step HB3.out hb4)
          clear hb4
          go_wp2_with fail
          refine (HMG.out _ HB4.out t HLT.out).mono ?_
          rintro e w5 ⟨rfl, hb5⟩
          have HB5 := Lib.hid (below_step HB4.out hb5)
          clear hb5
          go_wp2_with fail
          refine (HWH.out _ HB5.out).mono ?_
          rintro e w6 ⟨rfl, hb6⟩
          have HB6 := Lib.hid (below_step HB5.out hb6)
          clear hb6
          go_wp2_with fail
          refine (HMH.out _ HB6.out u HLU.out).mono ?_
          rintro e w7 ⟨rfl, hb7⟩
          have HB7 := Lib.hid (below_step HB6.out hb7)
          clear hb7
          go_wp2_with fail
          refine (HWG.out _ HB7.out).mono ?_
          rintro e w8 ⟨rfl, hb8⟩
          have HB8 := Lib.hid (below_step HB7.out hb8)
          clear hb8
          go_wp2_with fail
          refine (HWH.out _ HB8.out).mono ?_
          rintro e w9 ⟨rfl, hb9⟩
          have HB9 := Lib.hid (below_step HB8.out hb9)
          clear hb9
          go_wp2_with fail
          refine (HMO.out _ HB9.out _ HLO.out).mono ?_
          rintro e w10 ⟨rfl, hb10⟩
          have HB10 := Lib.hid (below_step HB9.out hb10)
          clear hb10
          go_wp2_with fail
          go_roundw
          case rel => exact ⟨k + 1, by omega, by go_num, HB10.out⟩
          case measure => simp [intOf]; omega
    · have HB := Lib.hid (below_step HB3'.out hb)
      clear hb
      go_wp2_with fail
      go_ret
      exact ⟨rfl, HB.out⟩

end Go.Proofs.YteaapgijeehhfaaGreatDoor

namespace Go.Proofs.YteaapgijeehhfaaGreatDoor
open Go.RowKit

theorem reachBytes_eq : reachBytes = 140737488351232 := by decide
theorem y_cells86 : Tryz.prog.cellsOf 86 = 2 := by kernel_rfl
theorem y_cells51 : Tryz.prog.cellsOf 51 = 4 := by kernel_rfl
theorem y_bytes86 : Tryz.prog.bytesOf 86 = 32 := by kernel_rfl
theorem y_bytes51 : Tryz.prog.bytesOf 51 = 56 := by kernel_rfl
theorem y_cells9 : Tryz.prog.cellsOf 9 = 1 := by kernel_rfl
theorem y_cells3 : Tryz.prog.cellsOf 3 = 1 := by kernel_rfl
theorem y_cells4 : Tryz.prog.cellsOf 4 = 1 := by kernel_rfl
theorem y_cells22 : Tryz.prog.cellsOf 22 = 1 := by kernel_rfl
theorem y_cells80 : Tryz.prog.cellsOf 80 = 1 := by kernel_rfl
theorem y_cells49 : Tryz.prog.cellsOf 49 = 1 := by kernel_rfl
theorem list2 {α : Type} {l : List α} (h : l.length = 2) : ∃ a b, l = [a, b] := by
  match l, h with
  | [a, b], _ => exact ⟨a, b, rfl⟩
theorem list4 {α : Type} {l : List α} (h : l.length = 4) : ∃ a b c d, l = [a, b, c, d] := by
  match l, h with
  | [a, b, c, d], _ => exact ⟨a, b, c, d, rfl⟩
theorem list9 {α : Type} {l : List α} (h : l.length = 9) : ∃ a b c d e f g i j, l = [a, b, c, d, e, f, g, i, j] := by
  match l, h with
  | [a, b, c, d, e, f, g, i, j], _ => exact ⟨a, b, c, d, e, f, g, i, j, rfl⟩
theorem y_cells79 : Tryz.prog.cellsOf 79 = 1 := by kernel_rfl
theorem y_cells82 : Tryz.prog.cellsOf 82 = 2 := by kernel_rfl
theorem y_cells84 : Tryz.prog.cellsOf 84 = 9 := by kernel_rfl
theorem y_bytes79 : Tryz.prog.bytesOf 79 = 24 := by kernel_rfl
theorem y_bytes82 : Tryz.prog.bytesOf 82 = 40 := by kernel_rfl
theorem y_bytes84 : Tryz.prog.bytesOf 84 = 96 := by kernel_rfl
section
variable {H : Type} {enc : TypeId × Value → H} {w : World}

set_option maxRecDepth 100000 in
/-- An argument's slice, element by element; 'step' reads one element. -/
theorem slice_read {α : Type} {t e : TypeId} {sz bt : Nat} {E : (Nat → Prop) → World → List Value → α → Prop} (hu : Tryz.prog.underlying t = some (.slice e)) (hc : Tryz.prog.cellsOf e = sz) (hb : Tryz.prog.bytesOf e = bt) (hsz : 0 < sz) (hbt : 0 < bt)
    {fuel : Nat} {cs : List Value} {x : DataW H × List MemPlace} (h : DataW.trod enc Tryz.prog w 0 (fun _ => true) true fuel t cs = some x) (hw : ∀ n ∈ x.1.weights Tryz.prog t, n ≤ reachBytes)
    (step : ∀ n cs' y, fuel = n + 1 → DataW.trod enc Tryz.prog w 0 (fun _ => true) true n e cs' = some y → (∀ m ∈ y.1.weights Tryz.prog e, m ≤ reachBytes) → ∃ a : α, cs'.length = sz ∧ E (fun _ => True) w cs' a) :
    ∃ v l, cs = [v] ∧ SlI sz bt E (fun _ => True) w v l := by
  rcases DataW.trod_slice hu h with ⟨rfl, rfl⟩ | ⟨a, len, cap, elems, rest, n, hf, rfl, rfl, _, hl, hm, hlen, hel, hsp, _⟩
  · exact ⟨_, [], rfl, .inl ⟨rfl, none, 0, rfl⟩⟩
  · have hw2 : ∀ m ∈ (DataW.slice (elems.map (·.1)) (rest.map (·.1))).weights Tryz.prog t, m ≤ reachBytes := hw
    simp only [DataW.weights, hu, List.mem_cons, List.mem_append, List.length_map] at hw2
    have hlw : (elems.length + rest.length) * Tryz.prog.bytesOf e ≤ reachBytes := hw2 _ (.inl rfl)
    have hmem : ∀ (l : List (DataW H)) (d : DataW H), d ∈ l → ∀ m ∈ d.weights Tryz.prog e, m ∈ DataW.weightsAll Tryz.prog e l := by
      intro l
      induction l with
      | nil => intro d hd; simp at hd
      | cons a l ih =>
        intro d hd m hm
        simp only [DataW.weightsAll, List.mem_append]
        rcases List.mem_cons.1 hd with rfl | hd
        · exact .inl hm
        · exact .inr (ih d hd m hm)
    have hex : ∀ i, i < len → ∃ x : α, ∃ cs' : List Value, cs'.length = sz ∧ w.cells? 0 (a.add (i * sz)) sz = some cs' ∧ E (fun _ => True) w cs' x := by
      intro i hi
      have h1 := hel i hi
      rw [hc, List.getElem?_eq_getElem (by omega)] at h1
      obtain ⟨cs', h2, h3⟩ := Option.bind_eq_some_iff.1 h1
      obtain ⟨x, h4, h5⟩ := step n cs' _ hf h3 (fun m hm => hw2 _ (.inr (.inl (hmem _ elems[i].1 (List.mem_map.2 ⟨_, List.getElem_mem _, rfl⟩) m hm))))
      exact ⟨x, cs', h4, h2, h5⟩
    obtain ⟨f, hf2⟩ : ∃ f : (i : Nat) → i < len → α, ∀ i (hi : i < len), ∃ cs' : List Value, cs'.length = sz ∧ w.cells? 0 (a.add (i * sz)) sz = some cs' ∧ E (fun _ => True) w cs' (f i hi) :=
      ⟨fun i hi => Classical.choose (hex i hi), fun i hi => Classical.choose_spec (hex i hi)⟩
    refine ⟨_, List.ofFn (fun i : Fin len => f i.1 i.2), rfl, ?_⟩
    by_cases h0 : len = 0
    · subst h0
      exact .inl ⟨by simp, some a, cap, rfl⟩
    · have hr := reachBytes_eq
      rw [hb, hlen] at hlw
      have hlw2 : len * bt ≤ 140737488355328 := by
        have : len * bt ≤ (len + rest.length) * bt := Nat.mul_le_mul_right _ (by omega)
        omega
      obtain ⟨b, o, spot⟩ := a
      obtain ⟨cs0, hc0, hc1, _⟩ := hf2 0 (by omega)
      obtain ⟨_, _, hcell⟩ := World.cells?_some hc1
      have hs0 := hcell 0 (by omega)
      have hspot : spot = none := by
        rw [List.getElem?_eq_getElem (by omega)] at hs0
        have h9 := World.cell?_spot hs0
        simpa [Addr.add] using h9
      subst hspot
      refine .inr ⟨b, o, cap, by simp, trivial, ?_, by simpa using hlw2, by simp; omega, ?_⟩
      · have : len ≤ len * bt := Nat.le_mul_of_pos_right _ hbt
        simp; omega
      · intro i hi
        have hi' : i < len := by simpa using hi
        obtain ⟨cs', h1, h2, h3⟩ := hf2 i hi'
        refine ⟨cs', h1, ?_, by simpa using h3⟩
        intro j u hj
        obtain ⟨_, _, hcl⟩ := World.cells?_some h2
        have hjl : j < sz := by have := (List.getElem?_eq_some_iff.1 hj).1; omega
        have h5 := hcl j hjl
        rw [hj] at h5
        have hadd : ((⟨b, o, none⟩ : Addr).add (i * sz)).add j = ⟨b, o + i * sz + j, none⟩ := by
          unfold Addr.add
          split <;> split <;> simp_all
        rw [hadd] at h5
        exact h5

theorem weights_each {ts : List TypeId} {xs : List (DataW H × List MemPlace)} {i : Nat} {t : TypeId} {x : DataW H × List MemPlace} (ht : ts[i]? = some t) (hx : xs[i]? = some x) (h : ∀ n ∈ DataW.weightsEach Tryz.prog ts (xs.map (·.1)), n ≤ reachBytes) :
    ∀ n ∈ x.1.weights Tryz.prog t, n ≤ reachBytes := fun n hn => h n (DataW.weights_mem_each ht (by rw [List.getElem?_map, hx]; rfl) n hn)

theorem int_ok {n : Int} (h : (Lit.int .i64 n).wf = true) : i64ok n := by
  unfold i64ok
  have h1 := h
  simp [Lit.wf, IntKind.min, IntKind.max, IntKind.bits, IntKind.signed] at h1
  omega

set_option maxRecDepth 100000 in
/-- A pair of texts. -/
theorem read_at {n : Nat} {cs : List Value} {y : DataW H × List MemPlace} (h : DataW.trod enc Tryz.prog w 0 (fun _ => true) true n 86 cs = some y) (hw : ∀ m ∈ y.1.weights Tryz.prog 86, m ≤ reachBytes) :
    ∃ a, cs.length = 2 ∧ EAt (fun _ => True) w cs a := by
  obtain ⟨xs, m, rfl, rfl, hl, hlen, hf⟩ := DataW.trod_struct Tryz.underlying86 h
  have hw2 := hw
  simp only [DataW.weights, Tryz.underlying86] at hw2
  have hl2 : cs.length = 2 := by rw [hl]; exact y_cells86
  obtain ⟨c0, c1, rfl⟩ := list2 hl2
  have h0 : DataW.trod enc Tryz.prog w 0 (fun _ => true) true m 9 (([c0, c1].drop 0).take (Tryz.prog.cellsOf 9)) = xs[0]? := hf 0 _ rfl
  have h1 : DataW.trod enc Tryz.prog w 0 (fun _ => true) true m 9 (([c0, c1].drop 1).take (Tryz.prog.cellsOf 9)) = xs[1]? := hf 1 _ rfl
  simp only [y_cells9, List.drop_zero, List.drop_succ_cons, List.take_succ_cons, List.take_zero] at h0 h1
  obtain ⟨x0, x1, rfl⟩ := list2 hlen
  simp only [List.getElem?_cons_zero, List.getElem?_cons_succ] at h0 h1
  obtain ⟨s0, e0, rfl, _⟩ := DataW.trod_string Tryz.underlying9 h0
  obtain ⟨s1, e1, rfl, _⟩ := DataW.trod_string Tryz.underlying9 h1
  simp only [List.cons.injEq, and_true] at e0 e1
  subst e0 e1
  have w0 := weights_each (i := 0) rfl rfl hw2 s0.data.toList.length (by simp [DataW.weights])
  have w1 := weights_each (i := 1) rfl rfl hw2 s1.data.toList.length (by simp [DataW.weights])
  have hr := reachBytes_eq
  exact ⟨(s0, s1), rfl, rfl, by simpa [hr] using w0, by simpa [hr] using w1⟩

set_option maxRecDepth 100000 in
/-- A node. -/
theorem read_nd {n : Nat} {cs : List Value} {y : DataW H × List MemPlace} (h : DataW.trod enc Tryz.prog w 0 (fun _ => true) true n 51 cs = some y) (hw : ∀ m ∈ y.1.weights Tryz.prog 51, m ≤ reachBytes) :
    ∃ a, cs.length = 4 ∧ ENdI (fun _ => True) w cs a := by
  obtain ⟨xs, m, rfl, rfl, hl, hlen, hf⟩ := DataW.trod_struct Tryz.underlying51 h
  have hw2 := hw
  simp only [DataW.weights, Tryz.underlying51] at hw2
  have hl2 : cs.length = 4 := by rw [hl]; exact y_cells51
  obtain ⟨c0, c1, c2, c3, rfl⟩ := list4 hl2
  have h0 : DataW.trod enc Tryz.prog w 0 (fun _ => true) true m 3 (([c0, c1, c2, c3].drop 0).take (Tryz.prog.cellsOf 3)) = xs[0]? := hf 0 _ rfl
  have h1 : DataW.trod enc Tryz.prog w 0 (fun _ => true) true m 3 (([c0, c1, c2, c3].drop 1).take (Tryz.prog.cellsOf 3)) = xs[1]? := hf 1 _ rfl
  have h2 : DataW.trod enc Tryz.prog w 0 (fun _ => true) true m 9 (([c0, c1, c2, c3].drop 2).take (Tryz.prog.cellsOf 9)) = xs[2]? := hf 2 _ rfl
  have h3 : DataW.trod enc Tryz.prog w 0 (fun _ => true) true m 49 (([c0, c1, c2, c3].drop 3).take (Tryz.prog.cellsOf 49)) = xs[3]? := hf 3 _ rfl
  simp only [y_cells9, y_cells3, y_cells49, List.drop_zero, List.drop_succ_cons, List.take_succ_cons, List.take_zero] at h0 h1 h2 h3
  obtain ⟨x0, x1, x2, x3, rfl⟩ := list4 hlen
  simp only [List.getElem?_cons_zero, List.getElem?_cons_succ] at h0 h1 h2 h3
  obtain ⟨n0, e0, rfl, k0⟩ := DataW.trod_int Tryz.underlying3 h0
  obtain ⟨n1, e1, rfl, k1⟩ := DataW.trod_int Tryz.underlying3 h1
  obtain ⟨s2, e2, rfl, _⟩ := DataW.trod_string Tryz.underlying9 h2
  have w2 := weights_each (i := 2) rfl rfl hw2 s2.data.toList.length (by simp [DataW.weights])
  have w3 := weights_each (i := 3) rfl rfl hw2
  obtain ⟨v, l, e3, hs⟩ := slice_read (E := EAt) Tryz.underlying49 y_cells86 y_bytes86 (by omega) (by omega) h3 w3 (fun n cs' y _ hy hwy => read_at hy hwy)
  simp only [List.cons.injEq, and_true] at e0 e1 e2 e3
  subst e0 e1 e2 e3
  have hr := reachBytes_eq
  exact ⟨⟨n0, n1, s2, l⟩, rfl, _, rfl, by simpa [hr] using w2, int_ok k0, int_ok k1, hs⟩

set_option maxRecDepth 100000 in
theorem read_tree {n : Nat} {cs : List Value} {y : DataW H × List MemPlace} (h : DataW.trod enc Tryz.prog w 0 (fun _ => true) true n 23 cs = some y) (hw : ∀ m ∈ y.1.weights Tryz.prog 23, m ≤ reachBytes) :
    ∃ v l, cs = [v] ∧ RTI (fun _ => True) w v l :=
  slice_read (E := ENdI) Tryz.underlying23 y_cells51 y_bytes51 (by omega) (by omega) h hw (fun _ _ _ _ hy hwy => read_nd hy hwy)

set_option maxRecDepth 100000 in
/-- A group of selectors, of whatever depth. -/
theorem read_group : ∀ (F n : Nat), n ≤ F → ∀ {cs : List Value} {y : DataW H × List MemPlace}, DataW.trod enc Tryz.prog w 0 (fun _ => true) true n 22 cs = some y → (∀ m ∈ y.1.weights Tryz.prog 22, m ≤ reachBytes) →
    ∃ v l, cs = [v] ∧ RGI (F + 1) (fun _ => True) w v l := by
  intro F
  induction F with
  | zero =>
    intro n hn cs y h _
    obtain rfl : n = 0 := by omega
    simp [DataW.trod] at h
  | succ F IH =>
    intro n hn cs y h hw
    have hsm : ∀ (m : Nat) (cs : List Value) (y : DataW H × List MemPlace), m ≤ F → DataW.trod enc Tryz.prog w 0 (fun _ => true) true m 84 cs = some y → (∀ m ∈ y.1.weights Tryz.prog 84, m ≤ reachBytes) →
        ∃ a : Simple, cs.length = 9 ∧ ESm (RGI (F + 1)) (fun _ => True) w cs a := by
      intro m cs y hm h hw
      obtain ⟨xs, k, rfl, rfl, hl, hlen, hf⟩ := DataW.trod_struct Tryz.underlying84 h
      have hw2 := hw
      simp only [DataW.weights, Tryz.underlying84] at hw2
      have hl2 : cs.length = 9 := by rw [hl]; exact y_cells84
      obtain ⟨c0, c1, c2, c3, c4, c5, c6, c7, c8, rfl⟩ := list9 hl2
      have h0 : DataW.trod enc Tryz.prog w 0 (fun _ => true) true k 3 (([c0, c1, c2, c3, c4, c5, c6, c7, c8].drop 0).take (Tryz.prog.cellsOf 3)) = xs[0]? := hf 0 _ rfl
      have h1 : DataW.trod enc Tryz.prog w 0 (fun _ => true) true k 9 (([c0, c1, c2, c3, c4, c5, c6, c7, c8].drop 1).take (Tryz.prog.cellsOf 9)) = xs[1]? := hf 1 _ rfl
      have h2 : DataW.trod enc Tryz.prog w 0 (fun _ => true) true k 9 (([c0, c1, c2, c3, c4, c5, c6, c7, c8].drop 2).take (Tryz.prog.cellsOf 9)) = xs[2]? := hf 2 _ rfl
      have h3 : DataW.trod enc Tryz.prog w 0 (fun _ => true) true k 4 (([c0, c1, c2, c3, c4, c5, c6, c7, c8].drop 3).take (Tryz.prog.cellsOf 4)) = xs[3]? := hf 3 _ rfl
      have h4 : DataW.trod enc Tryz.prog w 0 (fun _ => true) true k 3 (([c0, c1, c2, c3, c4, c5, c6, c7, c8].drop 4).take (Tryz.prog.cellsOf 3)) = xs[4]? := hf 4 _ rfl
      have h5 : DataW.trod enc Tryz.prog w 0 (fun _ => true) true k 3 (([c0, c1, c2, c3, c4, c5, c6, c7, c8].drop 5).take (Tryz.prog.cellsOf 3)) = xs[5]? := hf 5 _ rfl
      have h6 : DataW.trod enc Tryz.prog w 0 (fun _ => true) true k 4 (([c0, c1, c2, c3, c4, c5, c6, c7, c8].drop 6).take (Tryz.prog.cellsOf 4)) = xs[6]? := hf 6 _ rfl
      have h7 : DataW.trod enc Tryz.prog w 0 (fun _ => true) true k 4 (([c0, c1, c2, c3, c4, c5, c6, c7, c8].drop 7).take (Tryz.prog.cellsOf 4)) = xs[7]? := hf 7 _ rfl
      have h8 : DataW.trod enc Tryz.prog w 0 (fun _ => true) true k 22 (([c0, c1, c2, c3, c4, c5, c6, c7, c8].drop 8).take (Tryz.prog.cellsOf 22)) = xs[8]? := hf 8 _ rfl
      simp only [y_cells9, y_cells3, y_cells4, y_cells22, List.drop_zero, List.drop_succ_cons, List.take_succ_cons, List.take_zero] at h0 h1 h2 h3 h4 h5 h6 h7 h8
      obtain ⟨x0, x1, x2, x3, x4, x5, x6, x7, x8, rfl⟩ := list9 hlen
      simp only [List.getElem?_cons_zero, List.getElem?_cons_succ] at h0 h1 h2 h3 h4 h5 h6 h7 h8
      obtain ⟨n0, e0, rfl, k0⟩ := DataW.trod_int Tryz.underlying3 h0
      obtain ⟨s1, e1, rfl, _⟩ := DataW.trod_string Tryz.underlying9 h1
      obtain ⟨s2, e2, rfl, _⟩ := DataW.trod_string Tryz.underlying9 h2
      obtain ⟨b3, e3, rfl⟩ := DataW.trod_bool Tryz.underlying4 h3
      obtain ⟨n4, e4, rfl, k4⟩ := DataW.trod_int Tryz.underlying3 h4
      obtain ⟨n5, e5, rfl, k5⟩ := DataW.trod_int Tryz.underlying3 h5
      obtain ⟨b6, e6, rfl⟩ := DataW.trod_bool Tryz.underlying4 h6
      obtain ⟨b7, e7, rfl⟩ := DataW.trod_bool Tryz.underlying4 h7
      have w1 := weights_each (i := 1) rfl rfl hw2 s1.data.toList.length (by simp [DataW.weights])
      have w2 := weights_each (i := 2) rfl rfl hw2 s2.data.toList.length (by simp [DataW.weights])
      have w8 := weights_each (i := 8) rfl rfl hw2
      obtain ⟨v, l, e8, hs⟩ := IH k (by omega) h8 w8
      simp only [List.cons.injEq, and_true] at e0 e1 e2 e3 e4 e5 e6 e7 e8
      subst e0 e1 e2 e3 e4 e5 e6 e7 e8
      have hr := reachBytes_eq
      exact ⟨Simple.mk n0 s1 s2 b3 n4 n5 b6 b7 l, rfl, _, rfl, by simpa [hr, Simple.name] using w1, by simpa [hr, Simple.value] using w2, int_ok k0, int_ok k4, int_ok k5, hs⟩
    have hcp : ∀ (m : Nat) (cs : List Value) (y : DataW H × List MemPlace), m ≤ F → DataW.trod enc Tryz.prog w 0 (fun _ => true) true m 82 cs = some y → (∀ m ∈ y.1.weights Tryz.prog 82, m ≤ reachBytes) →
        ∃ a : Compound, cs.length = 2 ∧ ECpI (RGI (F + 1)) (fun _ => True) w cs a := by
      intro m cs y hm h hw
      obtain ⟨xs, k, rfl, rfl, hl, hlen, hf⟩ := DataW.trod_struct Tryz.underlying82 h
      have hw2 := hw
      simp only [DataW.weights, Tryz.underlying82] at hw2
      have hl2 : cs.length = 2 := by rw [hl]; exact y_cells82
      obtain ⟨c0, c1, rfl⟩ := list2 hl2
      have h0 : DataW.trod enc Tryz.prog w 0 (fun _ => true) true k 9 (([c0, c1].drop 0).take (Tryz.prog.cellsOf 9)) = xs[0]? := hf 0 _ rfl
      have h1 : DataW.trod enc Tryz.prog w 0 (fun _ => true) true k 80 (([c0, c1].drop 1).take (Tryz.prog.cellsOf 80)) = xs[1]? := hf 1 _ rfl
      simp only [y_cells9, y_cells80, List.drop_zero, List.drop_succ_cons, List.take_succ_cons, List.take_zero] at h0 h1
      obtain ⟨x0, x1, rfl⟩ := list2 hlen
      simp only [List.getElem?_cons_zero, List.getElem?_cons_succ] at h0 h1
      obtain ⟨s0, e0, rfl, _⟩ := DataW.trod_string Tryz.underlying9 h0
      have w0 := weights_each (i := 0) rfl rfl hw2 s0.data.toList.length (by simp [DataW.weights])
      have w1 := weights_each (i := 1) rfl rfl hw2
      obtain ⟨v, l, e1, hs⟩ := slice_read (E := ESm (RGI (F + 1))) Tryz.underlying80 y_cells84 y_bytes84 (by omega) (by omega) h1 w1 (fun n cs' y hn hy hwy => hsm n cs' y (by omega) hy hwy)
      simp only [List.cons.injEq, and_true] at e0 e1
      subst e0 e1
      have hr := reachBytes_eq
      exact ⟨(s0, l), rfl, _, rfl, by simpa [hr] using w0, hs⟩
    refine slice_read (E := ECxI (RGI (F + 1))) Tryz.underlying22 y_cells79 y_bytes79 (by omega) (by omega) h hw (fun n cs' y hn' hy hwy => ?_)
    obtain ⟨v, l, e, hs⟩ := slice_read (E := ECpI (RGI (F + 1))) Tryz.underlying79 y_cells82 y_bytes82 (by omega) (by omega) hy hwy (fun n cs' y hn hy hwy => hcp n cs' y (by omega) hy hwy)
    subst e
    exact ⟨l, rfl, _, rfl, hs⟩
end
end Go.Proofs.YteaapgijeehhfaaGreatDoor

namespace Go.Proofs.YteaapgijeehhfaaGreatDoor
open Go.ChangeShapes Go.WideShapes Go.RowKit

theorem Tryz.laidOut : laidOutB Tryz.prog = true := by kernel_rfl

noncomputable def fineT (t : TypeId) : Bool := decide (t < Tryz.prog.types.size) && Tryz.prog.readableRec t
noncomputable def fineVars (ns : List String) : Bool := ns.all fun n => match Tryz.prog.globalNamed n with
  | none => true
  | some g => match (Tryz.prog.globals[g]?).map (·.type) with
    | none => true
    | some t => fineT t

section
variable {H : Type} {enc : TypeId × Value → H} {W W' : World} {sp : Nat → Bool}

theorem same_below (hb : Below W.heap.size W W') {p : MemPlace} (hp : p.block < W.heap.size) : W.sameAt W' p := by
  cases p with
  | cell b off => exact World.cell?_of_block (w := W) (a := ⟨b, off, none⟩) (hb.block b hp)
  | map b => exact hb.block b hp

theorem trod_keep (hb : Below W.heap.size W W') {t : TypeId} (ht : fineT t = true) {n : Nat} {cs : List Value} {x : DataW H × List MemPlace} (h : DataW.trod enc Tryz.prog W 0 (fun _ => true) true n t cs = some x)
    (hlt : ∀ p ∈ x.2, p.block < W.heap.size) (hs : ∀ p ∈ x.2, sp p.block = true) : DataW.trod enc Tryz.prog W' 0 sp true n t cs = some x := by
  simp only [fineT, Bool.and_eq_true, decide_eq_true_eq] at ht
  exact DataW.trod_stays (kids_book Tryz.laidOut ht.2) (book_sized ht.2) (fun h => by cases h) ⟨ht.1, book_self t⟩ h (fun p hp => same_below hb (hlt p hp)) hs

theorem all_keep (hb : Below W.heap.size W W') : ∀ {ts : List TypeId} {vs : List Value} {ds : List (DataW H)} {ps : List MemPlace}, (∀ t ∈ ts, fineT t = true) → DataW.TrodAll enc Tryz.prog W 0 (fun _ => true) true ts vs ds ps →
    (∀ p ∈ ps, p.block < W.heap.size) → (∀ p ∈ ps, sp p.block = true) → DataW.TrodAll enc Tryz.prog W' 0 sp true ts vs ds ps
  | [], [], [], _, _, h, _, _ => h
  | _ :: _, _ :: _, _ :: _, _, ht, ⟨p, q, ⟨n, h1⟩, h2, e⟩, hlt, hs =>
    ⟨p, q, ⟨n, trod_keep hb (ht _ (List.mem_cons_self ..)) h1 (fun x hx => hlt x (by rw [e]; exact List.mem_append_left _ hx)) (fun x hx => hs x (by rw [e]; exact List.mem_append_left _ hx))⟩,
      all_keep hb (fun t h => ht t (List.mem_cons_of_mem _ h)) h2 (fun x hx => hlt x (by rw [e]; exact List.mem_append_right _ hx)) (fun x hx => hs x (by rw [e]; exact List.mem_append_right _ hx)), e⟩

theorem vars_keep (hb : Below W.heap.size W W') : ∀ {ns : List String} {ds : List (DataW H)} {ps : List MemPlace}, fineVars ns = true → DataW.TrodVars enc Tryz.prog W (fun _ => true) ns ds ps →
    (∀ p ∈ ps, p.block < W.heap.size) → (∀ p ∈ ps, sp p.block = true) → DataW.TrodVars enc Tryz.prog W' sp ns ds ps
  | [], [], _, _, h, _, _ => h
  | n :: ns, _ :: _, _, hf, ⟨g, t, cs, fuel, p, q, h1, h2, h3, h4, h5, e⟩, hlt, hs => by
    simp only [fineVars, List.all_cons, Bool.and_eq_true] at hf
    have hft : fineT t = true := by
      have := hf.1
      rw [h1] at this
      simp only [h2] at this
      exact this
    have h3' : W'.var? Tryz.prog n = some cs := by
      unfold World.var? at h3 ⊢
      rw [h1] at h3 ⊢
      simp only [Option.bind_some] at h3 ⊢
      cases hh : W.heap[g]? with
      | none => rw [hh] at h3; simp at h3
      | some o =>
        rw [hh] at h3
        rw [heap_keep hb hh]; exact h3
    have hp1 : ∀ x ∈ p, x ∈ MemPlace.row ⟨g, 0, none⟩ cs.size ++ p ++ q := fun x hx => List.mem_append_left _ (List.mem_append_right _ hx)
    have hq1 : ∀ x ∈ q, x ∈ MemPlace.row ⟨g, 0, none⟩ cs.size ++ p ++ q := fun x hx => List.mem_append_right _ hx
    exact ⟨g, t, cs, fuel, p, q, h1, h2, h3', trod_keep hb hft h4 (fun x hx => hlt x (by rw [e]; exact hp1 x hx)) (fun x hx => hs x (by rw [e]; exact hp1 x hx)),
      vars_keep hb (by simpa [fineVars] using hf.2) h5 (fun x hx => hlt x (by rw [e]; exact hq1 x hx)) (fun x hx => hs x (by rw [e]; exact hq1 x hx)), e⟩

theorem kept_below (hb : Below W.heap.size W W') (may : MemPlace → Prop) : W.keptBut W' may := by
  refine ⟨hb.os, hb.output, fun i hi => ?_⟩
  rw [hb.block i hi]
  cases W.heap[i]? with
  | none => rfl
  | some o =>
    cases o with
    | cells c t fr => exact ⟨rfl, rfl, rfl, fun _ _ => rfl⟩
    | map es clock => exact .inr ⟨rfl, rfl⟩
    | _ => rfl

set_option maxRecDepth 100000 in
/-- The form's word behind a function that makes new memory alone and answers true. -/
theorem post_below {f : Func} {s : ChangeSpec} {apart fresh handsOn again : Bool} {args : Array Value} {ds gs : List (DataW H)} {before : List MemPlace} (hb : Below W.heap.size W W')
    (hW : DataW.Whole enc Tryz.prog f.params.toList s.vars apart W args.toList ds gs before) (hT : ∀ t ∈ f.params.toList, fineT t = true) (hV : fineVars s.vars = true) (hr : f.resultTypes = #[4])
    (hfn : s.fn H (ds ++ gs) = { results := [.lit (.bool true)], args := ds, vars := gs }) : s.post enc Tryz.prog f apart fresh handsOn again W args (.bool true) W' := by
  have hlt := hW.lt
  obtain ⟨p, q, hA, hVs, rfl, hz, hn⟩ := hW
  have hres : ∀ (b : Nat) (sp : Nat → Bool) (hd : Bool), DataW.TrodAll enc Tryz.prog W' b sp hd f.resultTypes.toList ((Value.bool true).resultList f.resultTypes.size) (s.fn H (ds ++ gs)).results [] := by
    intro b sp hd
    rw [hr, hfn]
    exact trodAll_cons_mk (shut_bool Tryz.underlying4 _) trodAll_mk0
  have hargs : ∀ sp : Nat → Bool, (∀ x ∈ p ++ q, sp x.block = true) → DataW.TrodAll enc Tryz.prog W' 0 sp true f.params.toList args.toList (s.fn H (ds ++ gs)).args p := by
    intro sp hsp
    rw [hfn]
    exact all_keep hb hT hA (fun x hx => hlt x (List.mem_append_left _ hx)) (fun x hx => hsp x (List.mem_append_left _ hx))
  have hvars : ∀ sp : Nat → Bool, (∀ x ∈ p ++ q, sp x.block = true) → DataW.TrodVars enc Tryz.prog W' sp s.vars (s.fn H (ds ++ gs)).vars q := by
    intro sp hsp
    rw [hfn]
    exact vars_keep hb hV hVs (fun x hx => hlt x (List.mem_append_right _ hx)) (fun x hx => hsp x (List.mem_append_right _ hx))
  have hold : ∀ x ∈ p ++ q, (fun b => decide (b < W.heap.size)) x.block = true := fun x hx => by simpa using hlt x hx
  refine ⟨ds, gs, p ++ q, [], p, q, ⟨p, q, hA, hVs, rfl, hz, hn⟩, hres _ _ _, hargs _ hold, hvars _ hold, kept_below hb _, fun _ => ?_⟩
  refine ⟨?_, _, _, ([] ++ p) ++ q, ⟨[] ++ p, q, trodAll_append (hargs _ (fun _ _ => rfl)) (hres _ _ _), hvars _ (fun _ _ => rfl), rfl, ?_, ?_⟩, ?_⟩
  · exact ok_one hr rfl (okWide_bool_mk Tryz.underlying4 _)
  · intro b off hp
    have hlt2 : b < W.heap.size := hlt (.cell b off) (by simpa using hp)
    rw [hb.frozen hlt2]
    exact hz b off (by simpa using hp)
  · intro ha
    have := hn ha
    simpa using this
  · intro x hx _
    simpa using hx
end

/-! The table of blanks. -/
noncomputable def begun : World := (begin Tryz.prog (fun _ _ => 0) default).world
noncomputable def isU8 (t : TypeId) : Bool := match Tryz.prog.underlying t with
  | some (.int .u8) => true
  | _ => false
noncomputable def tableFine : Bool := match (begun.heap[14]?).bind Obj.row? with
  | none => false
  | some (z, t) => decide (128 ≤ z.size) && Tryz.prog.buildable t && (match Tryz.prog.cellTypes Tryz.prog.depth t with
    | none => false
    | some ts => ts.all isU8)
theorem table_fine : tableFine = true := by kernel_rfl
theorem table_in : 14 < Tryz.prog.globals.size := of_decide_eq_true (by kernel_rfl)

set_option maxRecDepth 100000 in
theorem table_of {W : World} (h : W.ShapedOpen Tryz.prog) : ∃ T, Tbl W T := by
  have hf := table_fine
  unfold tableFine at hf
  cases hz : (begun.heap[14]?).bind Obj.row? with
  | none => rw [hz] at hf; simp at hf
  | some zt =>
    obtain ⟨z, t⟩ := zt
    rw [hz] at hf
    simp only [Bool.and_eq_true, decide_eq_true_eq] at hf
    obtain ⟨⟨h1, h2⟩, h3⟩ := hf
    obtain ⟨cs, hcs, hsz, hrow⟩ := h.1 14 z t table_in hz
    obtain ⟨ts, hct, _, hcell⟩ := hrow h2
    rw [hct] at h3
    simp only [List.all_eq_true] at h3
    refine ⟨fun k => match cs[k]? with | some (.int _ n) => n | _ => 0, fun k hk => ?_⟩
    rw [cell_of_heap hcs]
    have hlt : k < cs.size := by omega
    obtain ⟨u, hu, hok⟩ := hcell k cs[k] (Array.getElem?_eq_getElem hlt)
    have hu8 := h3 u (List.mem_of_getElem? hu)
    have hn : ∃ n, cs[k] = .int .u8 n := by
      unfold isU8 at hu8
      split at hu8
      · rename_i hun
        unfold Cell.ok at hok
        rw [hun] at hok
        generalize cs[k] = v at hok ⊢
        cases v <;> simp at hok
        obtain ⟨rfl, _⟩ := hok
        exact ⟨_, rfl⟩
      · cases hu8
    obtain ⟨n, hn⟩ := hn
    simp only [Array.getElem?_eq_getElem hlt, hn]

end Go.Proofs.YteaapgijeehhfaaGreatDoor
