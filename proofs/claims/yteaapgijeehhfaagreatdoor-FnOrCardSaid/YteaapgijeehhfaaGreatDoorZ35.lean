/- spec.Group: of which groups of selectors something is stated. -/
import Derived.Test.YteaapgijeehhfaaGreatDoorZ34
import Derived.Test.YteaapgijeehhfaaGreatDoorZ18
set_option linter.unusedSimpArgs false
set_option linter.unusedVariables false
namespace Go.Proofs.YteaapgijeehhfaaGreatDoor
open Go.RowKit

theorem all_take_succ {α : Type} {l : List α} {P : Nat → α → Prop} {k : Nat} (h : ∀ j (hj : j < l.length), j < k → P j l[j]) (hk : k < l.length) (hp : P k l[k]) : ∀ j (hj : j < l.length), j < k + 1 → P j l[j] := by
  intro j hj hjk
  by_cases e : j = k
  · subst e; exact hp
  · exact h j hj (by omega)

theorem okSm_eta {og : Group → Prop} {q : Simple} (h : okSm og (Simple.mk q.kind q.name q.value q.fold q.a q.b q.last q.ofType q.subs)) : okSm og q := ⟨h.kind, h.name, h.value, h.fold, h.nth, h.subs⟩

set_option maxRecDepth 100000 in
set_option maxHeartbeats 8000000 in
theorem specGroup_any : ∀ (deep : Nat) (X : Nat → Prop) (w : World) (v : Value) (g : Group), deep ≤ 1000 → 1 ≤ deep → ∀ d, RG d X w v g → Calls Tryz.prog 24 #[v, .int .i64 deep] w (OkPost (okG deep g) w) := by
  intro deep
  induction deep with
  | zero => intro _ _ _ _ _ h; omega
  | succ deep IH =>
    intro X w v g hdl _ d h
    cases d with
    | zero => exact h.elim
    | succ d =>
    have HV := Lib.hid (SlX.view h (by omega))
    obtain ⟨a, cap, hv, hgl⟩ := SlX.len h (by omega)
    clear h
    subst hv
    have hd1 : 0 ≤ ((deep + 1 : Nat) : Int) ∧ ((deep + 1 : Nat) : Int) ≤ 1000 := by omega
    obtain ⟨dp, hdp⟩ : ∃ dp : Int, ((deep + 1 : Nat) : Int) = dp := ⟨_, rfl⟩
    rw [hdp] at hd1 ⊢
    have HDP := Lib.hid hdp
    clear hdp
    go_enter Tryz.func24, Tryz.ntmps24
    go_wp2_with fail
    go_loopw [13] (fun i wr => ∃ k : Nat, k ≤ g.length ∧ i = .int .i64 k ∧ (∀ j (hj : j < g.length), j < k → okCx (okG deep) g[j]) ∧ Below w.heap.size w wr) (fun i _ => g.length - (intOf i).toNat)
    case atStart => exact ⟨0, Nat.zero_le _, rfl, fun j _ h => by omega, Below.refl _ _⟩
    case round =>
      obtain ⟨k, hk, rfl, hall, hb⟩ := hrel
      have HALL := Lib.hid hall
      clear hall
      by_cases hlt : k < g.length
      · rcases HV.out with ⟨rfl, _⟩ | ⟨b, o, cap', hve, hX, _, hcb, hpos, hc⟩
        · simp at hlt
        · simp only [Value.slice.injEq, true_and] at hve
          obtain ⟨rfl, rfl⟩ := hve
          obtain ⟨cs, hcs1, hcs2, c, hcs3, hSl⟩ := hc k hlt
          subst hcs3
          have h0 : wr.cell? ⟨b, o + k, none⟩ = some c := cell_keep hb (by simpa using hcs2 0 c rfl)
          clear hcs1 hcs2 hc
          obtain ⟨c, hcd⟩ : ∃ c, g[k] = c := ⟨_, rfl⟩
          rw [hcd] at hSl
          have HC := Lib.hid hcd
          clear hcd
          obtain ⟨a2, cap2, rfl, hcl⟩ := SlX.len hSl (by omega)
          have HV2 := Lib.hid (SlX.view hSl (by omega))
          clear hSl
          by_cases hc1 : c.length < 1
          · have hc1i : (c.length : Int) < 1 := by omega
            go_wp2_with fail
            go_ret
            exact OkPost.no hb
          by_cases hc4 : 4 < c.length
          · have hc1i : ¬ (c.length : Int) < 1 := by omega
            have hc4i : 4 < (c.length : Int) := by omega
            go_wp2_with fail
            go_ret
            exact OkPost.no hb
          have hc1i : ¬ (c.length : Int) < 1 := by omega
          have hc4i : ¬ 4 < (c.length : Int) := by omega
          have HB := Lib.hid hb
          clear hb
          go_wp2_with fail
          go_loopw [27] (fun i wm => ∃ k2 : Nat, k2 ≤ c.length ∧ i = .int .i64 k2 ∧ (∀ j (hj : j < c.length), j < k2 → okParts (okG deep) c[j].2 ∧ (0 < j → okJoin c[j].1)) ∧ Below w.heap.size w wm) (fun i _ => c.length - (intOf i).toNat)
          case atStart => exact ⟨0, Nat.zero_le _, rfl, fun j _ h => by omega, HB.out⟩
          case round =>
            obtain ⟨k2, hk2, rfl, hall2, hb2⟩ := hrel
            have HALL2 := Lib.hid hall2
            clear hall2
            by_cases hlt2 : k2 < c.length
            · rcases HV2.out with ⟨rfl, _⟩ | ⟨b2, o2, cap2', hve2, hX2, _, hcb2, hpos2, hc2⟩
              · simp at hlt2
              · simp only [Value.slice.injEq, true_and] at hve2
                obtain ⟨rfl, rfl⟩ := hve2
                obtain ⟨cs2, hcs21, hcs22, pv, hcs23, hpsz, hSl3⟩ := hc2 k2 hlt2
                subst hcs23
                have h20 := cell_keep hb2 (by simpa using hcs22 0 _ rfl)
                have h21 := cell_keep hb2 (by simpa using hcs22 1 _ rfl)
                clear hcs21 hcs22 hc2
                obtain ⟨p, hpd⟩ : ∃ p, c[k2] = p := ⟨_, rfl⟩
                rw [hpd] at hSl3 hpsz h20
                have HP := Lib.hid hpd
                clear hpd
                obtain ⟨a3, cap3, rfl, hpl⟩ := SlX.len hSl3 (by omega)
                have HV3 := Lib.hid (SlX.view hSl3 (by omega))
                have hbs := hb2.size
                have hbal := hb2.alloc hb2.size (.cells #[.string p.1, .slice a3 p.2.length cap3] 67)
                have HBA := Lib.hid hbal
                have HB2 := Lib.hid hb2
                clear hSl3 hbal hb2
                by_cases hp1 : p.2.length < 1
                · have hp1i : (p.2.length : Int) < 1 := by omega
                  go_wp2_with fail
                  go_ret
                  exact OkPost.no HBA.out
                by_cases hp4 : 4 < p.2.length
                · have hp1i : ¬ (p.2.length : Int) < 1 := by omega
                  have hp4i : 4 < (p.2.length : Int) := by omega
                  go_wp2_with fail
                  go_ret
                  exact OkPost.no HBA.out
                have hp1i : ¬ (p.2.length : Int) < 1 := by omega
                have hp4i : ¬ 4 < (p.2.length : Int) := by omega
                have hcase : (¬ 0 < (k2 : Int) ∧ True) ∨ (0 < (k2 : Int) ∧ (p.1.toList == [32]) = true) ∨ (0 < (k2 : Int) ∧ (p.1.toList == [32]) = false ∧ (p.1.toList == [62]) = true) ∨
                    (0 < (k2 : Int) ∧ (p.1.toList == [32]) = false ∧ (p.1.toList == [62]) = false ∧ (p.1.toList == [43]) = true) ∨
                    (0 < (k2 : Int) ∧ (p.1.toList == [32]) = false ∧ (p.1.toList == [62]) = false ∧ (p.1.toList == [43]) = false ∧ (p.1.toList == [126]) = true) ∨
                    (0 < (k2 : Int) ∧ (p.1.toList == [32]) = false ∧ (p.1.toList == [62]) = false ∧ (p.1.toList == [43]) = false ∧ (p.1.toList == [126]) = false) := by
                  by_cases h : 0 < (k2 : Int)
                  · by_cases e1 : (p.1.toList == [32]) = true
                    · exact .inr (.inl ⟨h, e1⟩)
                    have e1 := Bool.eq_false_iff.2 e1
                    by_cases e2 : (p.1.toList == [62]) = true
                    · exact .inr (.inr (.inl ⟨h, e1, e2⟩))
                    have e2 := Bool.eq_false_iff.2 e2
                    by_cases e3 : (p.1.toList == [43]) = true
                    · exact .inr (.inr (.inr (.inl ⟨h, e1, e2, e3⟩)))
                    have e3 := Bool.eq_false_iff.2 e3
                    by_cases e4 : (p.1.toList == [126]) = true
                    · exact .inr (.inr (.inr (.inr (.inl ⟨h, e1, e2, e3, e4⟩))))
                    exact .inr (.inr (.inr (.inr (.inr ⟨h, e1, e2, e3, Bool.eq_false_iff.2 e4⟩))))
                  · exact .inl ⟨h, trivial⟩
                have hjo : okJoin p.1 ∨ ¬ 0 < (k2 : Int) ∨ ((p.1.toList == [32]) = false ∧ (p.1.toList == [62]) = false ∧ (p.1.toList == [43]) = false ∧ (p.1.toList == [126]) = false) := by
                  rcases hcase with h | ⟨_, h⟩ | ⟨_, _, h⟩ | ⟨_, _, _, h⟩ | ⟨_, _, _, _, h⟩ | ⟨_, h⟩
                  · exact .inr (.inl h.1)
                  · exact .inl (.inl (by rw [← L_toList]; simpa using h))
                  · exact .inl (.inr (.inl (by rw [← L_toList]; simpa using h)))
                  · exact .inl (.inr (.inr (.inl (by rw [← L_toList]; simpa using h))))
                  · exact .inl (.inr (.inr (.inr (by rw [← L_toList]; simpa using h))))
                  · exact .inr (.inr h)
                have HJ := Lib.hid hjo
                clear hjo
                rcases hcase with ⟨g0, _⟩ | ⟨g0, g1⟩ | ⟨g0, g1, g2⟩ | ⟨g0, g1, g2, g3⟩ | ⟨g0, g1, g2, g3, g4⟩ | ⟨g0, g1, g2, g3, g4⟩
                case inr.inr.inr.inr.inr =>
                  go_wp2_with fail
                  go_ret
                  exact OkPost.no HBA.out
                all_goals
                  have hjk : 0 < k2 → okJoin p.1 := by
                    intro hk0
                    rcases HJ.out with h | h | h
                    · exact h
                    · omega
                    · first | (exfalso; simp_all; done) | omega
                  have HJK := Lib.hid hjk
                  clear hjk
                  go_wp2_with fail
                  go_loopw [69] (fun i wn => ∃ k3 : Nat, k3 ≤ p.2.length ∧ i = .int .i64 k3 ∧ (∀ j (hj : j < p.2.length), j < k3 → okSm (okG deep) p.2[j] ∧ (0 < j → 1 < p.2[j].kind)) ∧ Below w.heap.size w wn) (fun i _ => p.2.length - (intOf i).toNat)
                  case atStart => exact ⟨0, Nat.zero_le _, rfl, fun j _ h => by omega, HBA.out⟩
                  case round =>
                    obtain ⟨k3, hk3, rfl, hall3, hb3⟩ := hrel
                    have HALL3 := Lib.hid hall3
                    clear hall3
                    by_cases hlt3 : k3 < p.2.length
                    · rcases HV3.out with ⟨hpe, _⟩ | ⟨b3, o3, cap3', hve3, hX3, _, hcb3, hpos3, hc3⟩
                      · rw [hpe] at hlt3; simp at hlt3
                      · simp only [Value.slice.injEq, true_and] at hve3
                        obtain ⟨rfl, rfl⟩ := hve3
                        obtain ⟨cs3, hcs31, hcs32, sv, hcs33, hz1, hz2, hz3, hz4, hz5, hR3⟩ := hc3 k3 hlt3
                        subst hcs33
                        obtain ⟨sa, sc, rfl⟩ := RG.val hR3
                        have f0 := cell_keep hb3 (by simpa using hcs32 0 _ rfl)
                        have f1 := cell_keep hb3 (by simpa using hcs32 1 _ rfl)
                        have f2 := cell_keep hb3 (by simpa using hcs32 2 _ rfl)
                        have f3 := cell_keep hb3 (by simpa using hcs32 3 _ rfl)
                        have f4 := cell_keep hb3 (by simpa using hcs32 4 _ rfl)
                        have f5 := cell_keep hb3 (by simpa using hcs32 5 _ rfl)
                        have f6 := cell_keep hb3 (by simpa using hcs32 6 _ rfl)
                        have f7 := cell_keep hb3 (by simpa using hcs32 7 _ rfl)
                        have f8 := cell_keep hb3 (by simpa using hcs32 8 _ rfl)
                        clear hcs31 hcs32 hc3
                        obtain ⟨q, hqd⟩ : ∃ q, p.2[k3] = q := ⟨_, rfl⟩
                        rw [hqd] at f0 f1 f2 f3 f4 f5 f6 f7 f8 hz1 hz2 hz3 hz4 hz5 hR3
                        have HQ := Lib.hid hqd
                        clear hqd
                        have hb4 := hb3.alloc hb3.size (.cells #[.int .i64 q.kind, .string q.name, .string q.value, .bool q.fold, .int .i64 q.a, .int .i64 q.b, .bool q.last, .bool q.ofType, .slice sa q.subs.length sc] 69)
                        have hs := simple_any (og := okG deep) dp (wr.alloc (.cells #[.int .i64 q.kind, .string q.name, .string q.value, .bool q.fold, .int .i64 q.a, .int .i64 q.b, .bool q.last, .bool q.ofType, .slice sa q.subs.length sc] 69)) q.kind q.name q.value q.fold q.a q.b q.last q.ofType q.subs sa sc hz1 hz2 hd1
                          (fun h1 w' hb' => by
                            have e : dp - 1 = (deep : Int) := by have := HDP.out; omega
                            rw [e]
                            exact IH X w' _ q.subs (by omega) (by have := HDP.out; omega) d ((RG.rep d).keep (KeepX.of_all (below_step hb4 hb')) hR3))
                        have s0 : (wr.alloc (.cells #[.int .i64 q.kind, .string q.name, .string q.value, .bool q.fold, .int .i64 q.a, .int .i64 q.b, .bool q.last, .bool q.ofType, .slice sa q.subs.length sc] 69)).cell? ⟨wr.heap.size, 0, none⟩ = some (.int .i64 q.kind) := by rw [cell_of_heap (heap_alloc_new wr _)]; rfl
                        have HS := Lib.hid hs
                        have HS0 := Lib.hid s0
                        have HB4 := Lib.hid hb4
                        clear hs s0 hb4 hb3 hR3
                        by_cases hk0 : 0 < k3
                        · have hk0i : 0 < (k3 : Int) := by omega
                          by_cases hq1 : q.kind ≤ 1
                          · go_wp2_with (go_at_call 35; refine HS.out.mono ?_; rintro e w2 ⟨r, rfl, hr, hb5⟩; have s0' := cell_keep hb5 HS0.out; have HB5 := Lib.hid (below_step HB4.out hb5); clear hr hb5; cases r)
                            · go_ret
                              exact OkPost.no HB5.out
                            · go_ret
                              exact OkPost.no HB5.out
                          · go_wp2_with (go_at_call 35; refine HS.out.mono ?_; rintro e w2 ⟨r, rfl, hr, hb5⟩; have s0' := cell_keep hb5 HS0.out; have HB5 := Lib.hid (below_step HB4.out hb5); have HRR := Lib.hid hr; clear hr hb5; cases r)
                            · go_ret
                              exact OkPost.no HB5.out
                            · go_roundw
                              case rel => exact ⟨k3 + 1, by omega, by go_num, all_take_succ (P := fun j s => okSm (okG deep) s ∧ (0 < j → 1 < s.kind)) HALL3.out hlt3 (by rw [HQ.out]; exact ⟨okSm_eta (HRR.out trivial), fun _ => by omega⟩), HB5.out⟩
                              case measure => simp [intOf]; omega
                        · have hk0i : ¬ 0 < (k3 : Int) := by omega
                          go_wp2_with (go_at_call 35; refine HS.out.mono ?_; rintro e w2 ⟨r, rfl, hr, hb5⟩; have s0' := cell_keep hb5 HS0.out; have HB5 := Lib.hid (below_step HB4.out hb5); have HRR := Lib.hid hr; clear hr hb5; cases r)
                          · go_ret
                            exact OkPost.no HB5.out
                          · go_roundw
                            case rel => exact ⟨k3 + 1, by omega, by go_num, all_take_succ (P := fun j s => okSm (okG deep) s ∧ (0 < j → 1 < s.kind)) HALL3.out hlt3 (by rw [HQ.out]; exact ⟨okSm_eta (HRR.out trivial), fun h => absurd h hk0⟩), HB5.out⟩
                            case measure => simp [intOf]; omega
                    · obtain rfl : k3 = p.2.length := by omega
                      have HB3 := Lib.hid hb3
                      clear hb3
                      go_wp2_with fail
                      go_roundw
                      case rel => exact ⟨k2 + 1, by omega, by go_num, all_take_succ (P := fun j q => okParts (okG deep) q.2 ∧ (0 < j → okJoin q.1)) HALL2.out hlt2 (by rw [HP.out]; exact ⟨⟨⟨by omega, by omega⟩, fun j hj => HALL3.out j hj hj⟩, HJK.out⟩), HB3.out⟩
                      case measure => simp [intOf]; omega
            · obtain rfl : k2 = c.length := by omega
              have HB2 := Lib.hid hb2
              clear hb2
              go_wp2_with fail
              go_roundw
              case rel => exact ⟨k + 1, by omega, by go_num, all_take_succ (P := fun _ c => okCx (okG deep) c) HALL.out hlt (by rw [HC.out]; exact ⟨⟨by omega, by omega⟩, fun j hj => HALL2.out j hj hj⟩), HB2.out⟩
              case measure => simp [intOf]; omega
      · obtain rfl : k = g.length := by omega
        have HB := Lib.hid hb
        clear hb
        by_cases h1 : 1 ≤ g.length
        · have h1i : 1 ≤ (g.length : Int) := by omega
          by_cases h3 : g.length ≤ 3
          · have h3i : (g.length : Int) ≤ 3 := by omega
            go_wp2_with fail
            go_ret
            exact OkPost.is (fun _ => ⟨⟨h1, h3⟩, fun j hj => HALL.out j hj hj⟩) HB.out
          · have h3i : ¬ (g.length : Int) ≤ 3 := by omega
            go_wp2_with fail
            go_ret
            exact OkPost.is (by simp) HB.out
        · have h1i : ¬ 1 ≤ (g.length : Int) := by omega
          go_wp2_with fail
          go_ret
          exact OkPost.no HB.out
end Go.Proofs.YteaapgijeehhfaaGreatDoor
