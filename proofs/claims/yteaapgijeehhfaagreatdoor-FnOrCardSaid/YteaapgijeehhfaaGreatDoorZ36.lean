/- spec.Tree: of which trees something is stated; printed by gentreeok.py. -/
import Derived.Test.YteaapgijeehhfaaGreatDoorZ32
import Derived.Test.YteaapgijeehhfaaGreatDoorZ27
import Derived.Test.YteaapgijeehhfaaGreatDoorZ18
import Derived.Test.YteaapgijeehhfaaGreatDoorZ19
import Derived.Deep.CutRange
import Derived.Deep.CutBlock
set_option linter.unusedSimpArgs false
set_option linter.unusedVariables false
namespace Go.Proofs.YteaapgijeehhfaaGreatDoor
open Go.RowKit

def lowC (c : UInt8) : Bool := decide (c.toNat ≤ 126)
theorem low_class (c : UInt8) : ((c.toNat : Int) < 32 ∧ True) ∨ (¬ (c.toNat : Int) < 32 ∧ 126 < (c.toNat : Int) ∧ True) ∨ (¬ (c.toNat : Int) < 32 ∧ ¬ 126 < (c.toNat : Int) ∧ lowC c = true) := by
  simp only [lowC, decide_eq_true_eq, and_true]; omega
theorem asc_low {s : ByteArray} (h : (L s).all lowC = true) (hs : s.size ≤ 2147483647) : asc s := by
  refine ⟨fun c hc => ?_, hs⟩
  have := List.all_eq_true.1 h c hc
  simp only [lowC, decide_eq_true_eq] at this
  omega

/-- A slice of pairs of texts, its cells told one by one. -/
theorem attr_view {X : Nat → Prop} {w : World} {v : Value} {l : List (ByteArray × ByteArray)} (h : SlX 2 32 EAt X w v l) :
    (l = [] ∧ True) ∨ ∃ b o cap, v = .slice (some ⟨b, o, none⟩) l.length cap ∧ l.length ≤ 140737488355328 ∧ l.length ≤ cap ∧
      ∀ i (h : i < l.length), w.cell? ⟨b, o + i * 2, none⟩ = some (.string l[i].1) ∧ w.cell? ⟨b, o + i * 2 + 1, none⟩ = some (.string l[i].2) ∧ l[i].1.size ≤ 140737488351232 ∧ l[i].2.size ≤ 140737488351232 := by
  rcases h with ⟨rfl, rfl⟩ | ⟨b, o, cap, rfl, h2, h3, h4, h5⟩
  · exact .inl ⟨rfl, trivial⟩
  · refine .inr ⟨b, o, cap, rfl, by omega, h2, fun i hi => ?_⟩
    obtain ⟨_, cs, _, e2, e3, e4, e5⟩ := h5 i hi
    subst e3
    exact ⟨by simpa using e2 0 _ rfl, by simpa using e2 1 _ rfl, e4, e5⟩

set_option maxRecDepth 100000 in
set_option maxHeartbeats 16000000 in
theorem specTree_any (X : Nat → Prop) (w : World) (v : Value) (l : List Nd) (h : RT X w v l) :
    Calls Tryz.prog 25 #[v] w (OkPost (okNds l ∧ 1 ≤ l.length ∧ l.length ≤ 24) w) := by
  have HV := Lib.hid (SlX.view h (by omega))
  obtain ⟨a, cap, hv, hgl⟩ := SlX.len h (by omega)
  clear h
  subst hv
  go_enter Tryz.func25, Tryz.ntmps25
  go_wp2_with fail
  go_loopw [13] (fun i wr => ∃ k : Nat, k ≤ l.length ∧ i = .int .i64 k ∧ (∀ j (hj : j < l.length), j < k → okNd j l[j]) ∧ Below w.heap.size w wr) (fun i _ => l.length - (intOf i).toNat)
  case atStart => exact ⟨0, Nat.zero_le _, rfl, fun j _ h => by omega, Below.refl _ _⟩
  case round =>
    obtain ⟨k, hk, rfl, hall, hb⟩ := hrel
    have HALL := Lib.hid hall
    clear hall
    by_cases hlt : k < l.length
    · rcases HV.out with ⟨rfl, _⟩ | ⟨b, o, cap', hve, hX, _, hcb, _, hc⟩
      · simp at hlt
      · simp only [Value.slice.injEq, true_and] at hve
        obtain ⟨rfl, rfl⟩ := hve
        have HC := Lib.hid hc
        obtain ⟨cs, hcs1, hcs2, av, hcs3, hz1, hz2, hz3, hSl⟩ := hc k hlt
        subst hcs3
        have f0 := cell_keep hb (by simpa using hcs2 0 _ rfl)
        have f1 := cell_keep hb (by simpa using hcs2 1 _ rfl)
        have f2 := cell_keep hb (by simpa using hcs2 2 _ rfl)
        have f3 := cell_keep hb (by simpa using hcs2 3 _ rfl)
        clear hcs1 hcs2 hc
        obtain ⟨n, hnd⟩ : ∃ n, l[k] = n := ⟨_, rfl⟩
        rw [hnd] at f0 f1 f2 hz1 hz2 hz3 hSl
        have HND := Lib.hid hnd
        obtain ⟨ava, avc, rfl, hal⟩ := SlX.len hSl (by omega)
        have HV2 := Lib.hid (attr_view hSl)
        have HB := Lib.hid hb
        have hbs := hb.size
        obtain ⟨kd, hkd⟩ : ∃ kd, n.kind = kd := ⟨_, rfl⟩
        rw [hkd] at f1
        have HBA := Lib.hid (HB.out.alloc HB.out.size (.cells #[.int .i64 n.parent, .int .i64 kd, .string n.data, .slice ava n.attrs.length avc] 36))
        clear hSl hnd hb
        by_cases hk0 : k = 0
        · subst hk0
          rw [Nat.zero_mul, Nat.add_zero] at f0 f1 f2 f3
          by_cases e1 : n.parent = -1
          · have e1b : (n.parent == -1) = true := by simpa using e1
            have e1c : (n.parent != -1) = false := by simp [e1]
            by_cases e2 : kd = 2
            · have e2b : (kd == 2) = true := by simpa using e2
              have e2c : (kd != 2) = false := by simp [e2]
              by_cases e3 : 0 < n.attrs.length
              · have e3i : 0 < (n.attrs.length : Int) := by omega
                go_wp2_with fail
                go_ret
                exact OkPost.no (HB.out.alloc HB.out.size _)
              · have e3i : ¬ 0 < (n.attrs.length : Int) := by omega
                have HE1 := Lib.hid e1
                have HE2 := Lib.hid e2
                clear e1 e2
                go_wp2_with fail
                go_roundw
                case rel =>
                  refine ⟨1, by omega, by go_num, fun j hj hjk => ?_, (HB.out.alloc HB.out.size _)⟩
                  obtain rfl : j = 0 := by omega
                  rw [HND.out]
                  have h1 := HE1.out
                  have h2 := HE2.out
                  refine ⟨by omega, by omega, fun h => by omega, fun a ha => ?_⟩
                  have : n.attrs = [] := List.eq_nil_of_length_eq_zero (by omega)
                  rw [this] at ha; simp at ha
                case measure => simp [intOf]; omega
            · have e2b : (kd == 2) = false := by simpa using e2
              have e2c : (kd != 2) = true := by simpa using e2
              go_wp2_with fail
              go_ret
              exact OkPost.no (HB.out.alloc HB.out.size _)
          · have e1b : (n.parent == -1) = false := by simpa using e1
            have e1c : (n.parent != -1) = true := by simpa using e1
            go_wp2_with fail
            go_ret
            exact OkPost.no (HB.out.alloc HB.out.size _)
        have hk0i : ((k : Int) == 0) = false := by simp; omega
        by_cases hpn : n.parent < 0
        · go_wp2_with fail
          go_ret
          exact OkPost.no HBA.out
        by_cases hpk : (k : Int) ≤ n.parent
        · go_wp2_with fail
          go_ret
          exact OkPost.no HBA.out
        obtain ⟨p, hpe⟩ : ∃ p : Nat, n.parent = p := ⟨n.parent.toNat, by omega⟩
        have hpl : p < l.length := by omega
        obtain ⟨cs, hcs1, hcs2, pv, hcs3, _⟩ := HC.out p hpl
        subst hcs3
        obtain ⟨pk, hpkd⟩ : ∃ pk, l[p].kind = pk := ⟨_, rfl⟩
        have hpc := hcs2 1 (.int .i64 l[p].kind) rfl
        rw [hpkd] at hpc
        have p1 := cell_keep HBA.out hpc
        rw [hpe] at f0 p1 HBA
        have hkp : (p : Int) < (k : Int) := by omega
        have hkn : ¬ (k : Int) ≤ (p : Int) := by omega
        have hp00 : ¬ (p : Int) < 0 := by omega
        clear hcs1 hcs2 hpkd hpc hpn hpk hk0
        go_upto_region 7 with fail
        go_cut [61] from 34 to 60 (fun v W => ∃ r, v = .bool r ∧ W = (wr.alloc (.cells #[.int .i64 p, .int .i64 kd, .string n.data, .slice ava n.attrs.length avc] 36)))
        case first =>
          by_cases hp3 : pk = 3
          · have hp3b : (pk == 3) = true ∧ (pk != 3) = false := by simp [hp3]
            obtain ⟨hp3b, hp3c⟩ := hp3b
            clear hp3
            go_wp2_with fail
            go_meet
            case rel => exact ⟨_, rfl, rfl⟩
          · have hp3b : (pk == 3) = false ∧ (pk != 3) = true := by simp [hp3]
            obtain ⟨hp3b, hp3c⟩ := hp3b
            by_cases hp0 : p = 0
            · have hp0b : ((p : Int) == 0) = true ∧ ((p : Int) != 0) = false := by simp [hp0]
              obtain ⟨hp0b, hp0c⟩ := hp0b
              clear hp0
              go_wp2_with fail
              go_meet
              case rel => exact ⟨_, rfl, rfl⟩
            · have hp0b : ((p : Int) == 0) = false ∧ ((p : Int) != 0) = true := by simp [hp0]
              obtain ⟨hp0b, hp0c⟩ := hp0b
              clear hp0
              go_wp2_with fail
              go_meet
              case rel => exact ⟨_, rfl, rfl⟩
        case rest =>
          obtain ⟨r7, rfl, rfl⟩ := hcut
          have hbA := HBA
          cases r7
          case true =>
            go_wp2_with fail
            go_ret
            exact OkPost.no hbA.out
          case false =>
            go_upto_region 9 with fail
            go_cut [107] from 62 to 106 (fun v W => ∃ r, v = .bool r ∧ (r = false → (kd = 3 ∨ kd = 1 ∨ kd = 4) ∧ n.data.size ≤ 40 ∧ n.attrs.length ≤ 4) ∧ W = (wr.alloc (.cells #[.int .i64 p, .int .i64 kd, .string n.data, .slice ava n.attrs.length avc] 36)))
            case first =>
              have hd40 : 40 < n.data.size ∨ n.data.size ≤ 40 := by omega
              have ha4 : 4 < n.attrs.length ∨ n.attrs.length ≤ 4 := by omega
              by_cases hk3 : kd = 3
              · subst hk3
                have hnm := fun w => name_any n.data w hz1
                obtain ⟨nm, hnmd⟩ : ∃ nm, nameL (L n.data) = nm := ⟨_, rfl⟩
                rw [hnmd] at hnm
                have HNM := Lib.hid hnm
                clear hnm hnmd
                cases nm
                · go_wp2_with (go_at_call 36; refine (HNM.out _).mono ?_; rintro e w2 ⟨rfl, rfl⟩)
                  go_meet
                  case rel => exact ⟨_, rfl, by simp, rfl⟩
                · rcases hd40 with hd40 | hd40
                  · have hd40i : 40 < (n.data.size : Int) := by omega
                    go_wp2_with (go_at_call 36; refine (HNM.out _).mono ?_; rintro e w2 ⟨rfl, rfl⟩)
                    go_meet
                    case rel => exact ⟨_, rfl, by simp, rfl⟩
                  · have hd40i : ¬ 40 < (n.data.size : Int) := by omega
                    rcases ha4 with ha4 | ha4
                    · have ha4i : 4 < (n.attrs.length : Int) := by omega
                      go_wp2_with (go_at_call 36; refine (HNM.out _).mono ?_; rintro e w2 ⟨rfl, rfl⟩)
                      go_meet
                      case rel => exact ⟨_, rfl, by simp, rfl⟩
                    · have ha4i : ¬ 4 < (n.attrs.length : Int) := by omega
                      go_wp2_with (go_at_call 36; refine (HNM.out _).mono ?_; rintro e w2 ⟨rfl, rfl⟩)
                      go_meet
                      case rel => exact ⟨_, rfl, fun _ => ⟨by simp, hd40, ha4⟩, rfl⟩
              by_cases hk1 : kd = 1
              · subst hk1
                obtain ⟨em, hem⟩ : ∃ em, n.data.toList.isEmpty = em := ⟨_, rfl⟩
                cases em
                · rcases hd40 with hd40 | hd40
                  · have hd40i : 40 < (n.data.size : Int) := by omega
                    go_wp2_with fail
                    go_meet
                    case rel => exact ⟨_, rfl, by simp, rfl⟩
                  · have hd40i : ¬ 40 < (n.data.size : Int) := by omega
                    rcases ha4 with ha4 | ha4
                    · have ha4i : 4 < (n.attrs.length : Int) := by omega
                      go_wp2_with fail
                      go_meet
                      case rel => exact ⟨_, rfl, by simp, rfl⟩
                    · have ha4i : ¬ 4 < (n.attrs.length : Int) := by omega
                      go_wp2_with fail
                      go_meet
                      case rel => exact ⟨_, rfl, fun _ => ⟨by simp, hd40, ha4⟩, rfl⟩
                · go_wp2_with fail
                  go_meet
                  case rel => exact ⟨_, rfl, by simp, rfl⟩
              by_cases hk4 : kd = 4
              · subst hk4
                rcases hd40 with hd40 | hd40
                · have hd40i : 40 < (n.data.size : Int) := by omega
                  go_wp2_with fail
                  go_meet
                  case rel => exact ⟨_, rfl, by simp, rfl⟩
                · have hd40i : ¬ 40 < (n.data.size : Int) := by omega
                  rcases ha4 with ha4 | ha4
                  · have ha4i : 4 < (n.attrs.length : Int) := by omega
                    go_wp2_with fail
                    go_meet
                    case rel => exact ⟨_, rfl, by simp, rfl⟩
                  · have ha4i : ¬ 4 < (n.attrs.length : Int) := by omega
                    go_wp2_with fail
                    go_meet
                    case rel => exact ⟨_, rfl, fun _ => ⟨by simp, hd40, ha4⟩, rfl⟩
              have c3 : (kd == 3) = false := by simpa using hk3
              have c1 : (kd == 1) = false := by simpa using hk1
              have c4 : (kd == 4) = false := by simpa using hk4
              have d3 : (kd != 3) = true := by simpa using hk3
              have d1 : (kd != 1) = true := by simpa using hk1
              have d4 : (kd != 4) = true := by simpa using hk4
              go_wp2_with fail
              go_meet
              case rel => exact ⟨_, rfl, by simp, rfl⟩
            case rest =>
              obtain ⟨r9, rfl, hr9, rfl⟩ := hcut
              have HR9 := Lib.hid hr9
              clear hr9
              cases r9
              case true =>
                go_wp2_with fail
                go_ret
                exact OkPost.no hbA.out
              case false =>
                obtain ⟨hkd3, hd40, ha4⟩ := HR9.out rfl
                have HKD := Lib.hid hkd3
                clear hkd3
                go_wp2_with fail
                go_loop [111] (fun i => ∃ m : Nat, m ≤ n.data.size ∧ i = .int .i64 m ∧ ((L n.data).take m).all lowC = true) (fun i => n.data.size - (intOf i).toNat)
                case atStart => exact ⟨0, Nat.zero_le _, rfl, rfl⟩
                case round =>
                  obtain ⟨m, hm, rfl, hr⟩ := hrel
                  have HR := Lib.hid hr
                  clear hr
                  by_cases hmlt : m < n.data.size
                  · rcases low_class n.data[m] with ⟨h1, h2⟩ | ⟨h1, h2, h3⟩ | ⟨h1, h2, h3⟩
                    · clear h2
                      go_wp2_with fail
                      go_ret
                      exact OkPost.no hbA.out
                    · clear h3
                      go_wp2_with fail
                      go_ret
                      exact OkPost.no hbA.out
                    · have HL := Lib.hid h3
                      clear h3
                      go_wp2_with fail
                      go_round
                      case rel => exact ⟨m + 1, by omega, by go_num, all_succ hmlt HR.out HL.out⟩
                      case measure => simp [intOf]; omega
                  · have HDL := Lib.hid (all_end hmlt HR.out)
                    obtain rfl : m = n.data.size := by omega
                    clear HR
                    have W0c1 := Lib.hid (show (wr.alloc (.cells #[.int .i64 p, .int .i64 kd, .string n.data, .slice ava n.attrs.length avc] 36)).cell? ⟨wr.heap.size, 1, none⟩ = some (.int .i64 kd) by rw [cell_of_heap (heap_alloc_new wr _)]; rfl)
                    have W0c3 := Lib.hid (show (wr.alloc (.cells #[.int .i64 p, .int .i64 kd, .string n.data, .slice ava n.attrs.length avc] 36)).cell? ⟨wr.heap.size, 3, none⟩ = some (.slice ava n.attrs.length avc) by rw [cell_of_heap (heap_alloc_new wr _)]; rfl)
                    go_wp2_with fail
                    obtain ⟨W0, hW0⟩ : ∃ W0 : World, W0 = (wr.alloc (.cells #[.int .i64 p, .int .i64 kd, .string n.data, .slice ava n.attrs.length avc] 36)) := ⟨_, rfl⟩
                    rw [← hW0]
                    have HW0 := Lib.hid hW0
                    have hbW := Lib.hid (show Below w.heap.size w W0 by rw [hW0]; exact hbA.out)
                    have X1 := Lib.hid (show W0.cell? ⟨wr.heap.size, 1, none⟩ = some (.int .i64 kd) by rw [hW0]; exact W0c1.out)
                    have X3 := Lib.hid (show W0.cell? ⟨wr.heap.size, 3, none⟩ = some (.slice ava n.attrs.length avc) by rw [hW0]; exact W0c3.out)
                    clear hW0
                    go_loopw [130] (fun i wn => ∃ m : Nat, m ≤ n.attrs.length ∧ i = .int .i64 m ∧ (∀ j (hj : j < n.attrs.length), j < m → asc n.attrs[j].2) ∧ Below W0.heap.size W0 wn) (fun i _ => n.attrs.length - (intOf i).toNat)
                    case atStart => exact ⟨0, Nat.zero_le _, rfl, fun j _ h => by omega, Below.refl _ _⟩
                    case round =>
                      obtain ⟨m, hm, rfl, hat, hbn⟩ := hrel
                      have HAT := Lib.hid hat
                      have x1 := cell_keep hbn X1.out
                      have x3 := cell_keep hbn X3.out
                      clear hat
                      by_cases hmlt : m < n.attrs.length
                      · rcases HV2.out with ⟨hpe, _⟩ | ⟨b3, o3, cap3, hve3, hX3, hcc3, hc3⟩
                        · rw [hpe] at hmlt; simp at hmlt
                        · simp only [Value.slice.injEq, true_and] at hve3
                          obtain ⟨rfl, rfl⟩ := hve3
                          obtain ⟨hq1, hq2, hz1', hz2'⟩ := hc3 m hmlt
                          have hbwn := below_step hbW.out hbn
                          have g0 := cell_keep hbwn hq1
                          have g1 := cell_keep hbwn hq2
                          clear hq1 hq2
                          by_cases hk3 : kd = 3
                          · have d3 : (kd != 3) = false := by simp [hk3]
                            clear hk3
                            obtain ⟨q, hqd⟩ : ∃ q, n.attrs[m] = q := ⟨_, rfl⟩
                            rw [hqd] at g0 g1 hz1' hz2'
                            have HQ := Lib.hid hqd
                            have hb6 := hbn.alloc hbn.size (.cells #[.string q.1, .string q.2] 87)
                            have HB6 := Lib.hid hb6
                            have HBN := Lib.hid (hbwn.alloc hbwn.size (.cells #[.string q.1, .string q.2] 87))
                            have HC3 := Lib.hid hc3
                            have y1 := cell_keep hb6 X1.out
                            have y3 := cell_keep hb6 X3.out
                            have hnm := fun w => name_any q.1 w hz1'
                            obtain ⟨nm2, hnm2⟩ : ∃ nm2, nameL (L q.1) = nm2 := ⟨_, rfl⟩
                            rw [hnm2] at hnm
                            have HNM2 := Lib.hid hnm
                            clear hqd hb6 hbn hbwn hc3 hnm hnm2
                            cases nm2
                            · go_wp2_with (go_at_call 36; refine (HNM2.out _).mono ?_; rintro e w2 ⟨rfl, rfl⟩)
                              go_ret
                              exact OkPost.no HBN.out
                            · by_cases hl40 : 40 < q.2.size
                              · have hl40i : 40 < (q.2.size : Int) := by omega
                                go_wp2_with (go_at_call 36; refine (HNM2.out _).mono ?_; rintro e w2 ⟨rfl, rfl⟩)
                                go_ret
                                exact OkPost.no HBN.out
                              · have hl40i : ¬ 40 < (q.2.size : Int) := by omega
                                go_wp2_with (go_at_call 36; refine (HNM2.out _).mono ?_; rintro e w2 ⟨rfl, rfl⟩)
                                go_loop [153] (fun i => ∃ m4 : Nat, m4 ≤ q.2.size ∧ i = .int .i64 m4 ∧ ((L q.2).take m4).all lowC = true) (fun i => q.2.size - (intOf i).toNat)
                                case atStart => exact ⟨0, Nat.zero_le _, rfl, rfl⟩
                                case round =>
                                  obtain ⟨m4, hm4, rfl, hr4⟩ := hrel
                                  have HR4 := Lib.hid hr4
                                  clear hr4
                                  by_cases hm4lt : m4 < q.2.size
                                  · rcases low_class q.2[m4] with ⟨h1, h2⟩ | ⟨h1, h2, h3⟩ | ⟨h1, h2, h3⟩
                                    · clear h2
                                      go_wp2_with fail
                                      go_ret
                                      exact OkPost.no HBN.out
                                    · clear h3
                                      go_wp2_with fail
                                      go_ret
                                      exact OkPost.no HBN.out
                                    · have HL := Lib.hid h3
                                      clear h3
                                      go_wp2_with fail
                                      go_round
                                      case rel => exact ⟨m4 + 1, by omega, by go_num, all_succ hm4lt HR4.out HL.out⟩
                                      case measure => simp [intOf]; omega
                                  · have HDL4 := Lib.hid (all_end hm4lt HR4.out)
                                    obtain rfl : m4 = q.2.size := by omega
                                    clear HR4
                                    have hmcap : m ≤ avc := by omega
                                    go_wp2_with fail
                                    obtain ⟨W1, hW1⟩ : ∃ W1 : World, W1 = wr.alloc (.cells #[.string q.1, .string q.2] 87) := ⟨_, rfl⟩
                                    rw [← hW1]
                                    have hB1 := Lib.hid (show Below w.heap.size w W1 by rw [hW1]; exact HBN.out)
                                    have hB01 := Lib.hid (show Below W0.heap.size W0 W1 by rw [hW1]; exact HB6.out)
                                    have hq1 := Lib.hid (show W1.cell? ⟨wr.heap.size, 0, none⟩ = some (.string q.1) by rw [hW1, cell_of_heap (heap_alloc_new wr _)]; rfl)
                                    clear hW1
                                    go_loopw [174] (fun i wo => ∃ m5 : Nat, m5 ≤ m ∧ i = .int .i64 m5 ∧ Below W1.heap.size W1 wo) (fun i _ => m - (intOf i).toNat)
                                    case atStart => exact ⟨0, Nat.zero_le _, rfl, Below.refl _ _⟩
                                    case round =>
                                      obtain ⟨m5, hm5, rfl, hbo⟩ := hrel
                                      have z0 := cell_keep hbo hq1.out
                                      have HBO := Lib.hid (below_step hB1.out hbo)
                                      by_cases hm5lt : m5 < m
                                      · obtain ⟨hq3, hq4, _, _⟩ := HC3.out m5 (by omega)
                                        have g3 := cell_keep HBO.out hq3
                                        have g4 := cell_keep HBO.out hq4
                                        have z1 := cell_keep (below_alloc wr (.cells #[.string n.attrs[m5].1, .string n.attrs[m5].2] 87)) z0
                                        have HBO2 := Lib.hid (HBO.out.alloc HBO.out.size (.cells #[.string n.attrs[m5].1, .string n.attrs[m5].2] 87))
                                        have HBO3 := Lib.hid (hbo.alloc hbo.size (.cells #[.string n.attrs[m5].1, .string n.attrs[m5].2] 87))
                                        obtain ⟨r5, hr5⟩ : ∃ r5, (n.attrs[m5].1.toList == q.1.toList) = r5 := ⟨_, rfl⟩
                                        clear hq3 hq4 hbo
                                        cases r5
                                        · go_wp2_with fail
                                          go_roundw
                                          case rel => exact ⟨m5 + 1, by omega, by go_num, HBO3.out⟩
                                          case measure => simp [intOf]; omega
                                        · go_wp2_with fail
                                          go_ret
                                          exact OkPost.no HBO2.out
                                      · have HB02 := Lib.hid (below_step hB01.out hbo)
                                        clear hbo
                                        go_wp2_with fail
                                        go_roundw
                                        case rel =>
                                          refine ⟨m + 1, by omega, by go_num, fun j hj hjm => ?_, HB02.out⟩
                                          by_cases e : j = m
                                          · subst e; rw [HQ.out]; exact asc_low HDL4.out (by omega)
                                          · exact HAT.out j hj (by omega)
                                        case measure => simp [intOf]; omega
                          · have HBN := Lib.hid (hbwn.alloc hbwn.size (.cells #[.string n.attrs[m].1, .string n.attrs[m].2] 87))
                            have y1 := cell_keep (below_alloc wr (.cells #[.string n.attrs[m].1, .string n.attrs[m].2] 87)) x1
                            have d3 : (kd != 3) = true := by simpa using hk3
                            clear hbn hbwn hc3
                            go_wp2_with fail
                            go_ret
                            exact OkPost.no HBN.out
                      · have HBN := Lib.hid (below_step hbW.out hbn)
                        clear hbn x1 x3
                        go_wp2_with fail
                        go_roundw
                        case rel =>
                          refine ⟨k + 1, by omega, by go_num, fun j hj hjk => ?_, HBN.out⟩
                          by_cases e : j = k
                          · subst e
                            rw [HND.out]
                            refine ⟨by omega, by have := HKD.out; omega, fun _ => asc_low HDL.out (by omega), fun a ha => ?_⟩
                            obtain ⟨i, hi, rfl⟩ := List.mem_iff_getElem.1 ha
                            exact HAT.out i hi (by omega)
                          · exact HALL.out j hj (by omega)
                        case measure => simp [intOf]; omega
    · obtain rfl : k = l.length := by omega
      have HB := Lib.hid hb
      clear hb
      by_cases h1 : 1 ≤ l.length
      · have h1i : 1 ≤ (l.length : Int) := by omega
        by_cases h3 : l.length ≤ 24
        · have h3i : (l.length : Int) ≤ 24 := by omega
          go_wp2_with fail
          go_ret
          exact OkPost.is (fun _ => ⟨fun j hj => HALL.out j hj hj, h1, h3⟩) HB.out
        · have h3i : ¬ (l.length : Int) ≤ 24 := by omega
          go_wp2_with fail
          go_ret
          exact OkPost.is (by simp) HB.out
      · have h1i : ¬ 1 ≤ (l.length : Int) := by omega
        go_wp2_with fail
        go_ret
        exact OkPost.no HB.out
end Go.Proofs.YteaapgijeehhfaaGreatDoor
