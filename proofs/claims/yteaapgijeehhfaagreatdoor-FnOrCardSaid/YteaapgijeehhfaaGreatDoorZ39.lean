/- spec.Write: how a group of selectors is written. -/
import Derived.Test.YteaapgijeehhfaaGreatDoorZ38
set_option linter.unusedSimpArgs false
set_option linter.unusedVariables false
namespace Go.Proofs.YteaapgijeehhfaaGreatDoor
open Go.RowKit

def WritePost (l : List UInt8) (w : World) (e : Ending) (w' : World) : Prop := e = .returned (.string (bs l)) ∧ Below w.heap.size w w'

theorem size_of_L {u : ByteArray} {l : List UInt8} (h : L u = l) : u.size = l.length := by rw [← h, L_len]
theorem bs_of_L {u : ByteArray} {l : List UInt8} (h : L u = l) : u = bs l := L_inj h

set_option maxRecDepth 100000 in
set_option maxHeartbeats 8000000 in
theorem specWrite_any : ∀ (D : Nat) (X : Nat → Prop) (w : World) (v : Value) (g : Group) (d : Nat), D ≤ 3 → RG d X w v g → okG D g → Calls Tryz.prog 13 #[v] w (WritePost (wG D g) w) := by
  intro D
  induction D with
  | zero => intro _ _ _ _ _ _ _ h; exact h.elim
  | succ D IH =>
    intro X w v g d hD h hok
    cases d with
    | zero => exact h.elim
    | succ d =>
    have hlen := wG_len (D + 1) g hok
    have hcap : capG (D + 1) ≤ 1000000000 := by
      obtain rfl | rfl | rfl : D = 0 ∨ D = 1 ∨ D = 2 := by omega
      all_goals decide
    have hB : ∀ g, okG D g → (wG D g).length ≤ 1000000000 := fun g hg => by
      have h1 := wG_len D g hg
      have h2 : capG D ≤ 1000000000 := by
        obtain rfl | rfl | rfl : D = 0 ∨ D = 1 ∨ D = 2 := by omega
        all_goals decide
      omega
    obtain ⟨wg, hwg⟩ : ∃ wg, wG D = wg := ⟨_, rfl⟩
    have hgr : wG (D + 1) g = wGr wg g := by rw [← hwg]; rfl
    rw [hgr] at hlen ⊢
    rw [hwg] at IH hB
    have htot : (wGr wg g).length ≤ 1000000000 := by omega
    have hokc : ∀ k (hk : k < g.length), okCx (okG D) g[k] := hok.each
    have HTOT := Lib.hid htot
    have HOKC := Lib.hid hokc
    have HV := Lib.hid (SlX.view h (by omega))
    obtain ⟨a, cap, hv, hgl⟩ := SlX.len h (by omega)
    clear h hlen hcap hgr hwg hok htot hokc
    subst hv
    go_enter Tryz.func13, Tryz.ntmps13
    go_wp2_with fail
    go_loopw [3, 12] (fun out i wr => ∃ k : Nat, ∃ u, k ≤ g.length ∧ i = .int .i64 k ∧ out = .string u ∧ L u = wGr wg (g.take k) ∧ Below w.heap.size w wr) (fun _ i _ => g.length - (intOf i).toNat)
    case atStart => exact ⟨0, ⟨#[]⟩, Nat.zero_le _, rfl, rfl, rfl, Below.refl _ _⟩
    case round =>
      obtain ⟨k, u, hk, rfl, rfl, hu, hb⟩ := hrel
      have HU := Lib.hid hu
      clear hu
      by_cases hlt : k < g.length
      · rcases HV.out with ⟨rfl, _⟩ | ⟨b, o, cap', hve, hX, _, hcb, hpos, hc⟩
        · simp at hlt
        · simp only [Value.slice.injEq, true_and] at hve
          obtain ⟨rfl, rfl⟩ := hve
          obtain ⟨cs, hcs1, hcs2, c, hcs3, hSl⟩ := hc k hlt
          subst hcs3
          have h0 : wr.cell? ⟨b, o + k, none⟩ = some c := cell_keep hb (by simpa using hcs2 0 c rfl)
          clear hcs1 hcs2 hc
          have htk := wGr_take (wg := wg) hlt
          have hle := wGr_le (wg := wg) g (a := k + 1) (b := g.length) (by omega)
          rw [List.take_length] at hle
          have hoc := HOKC.out k hlt
          obtain ⟨c, hcd⟩ : ∃ c, g[k] = c := ⟨_, rfl⟩
          rw [hcd] at hSl htk hoc
          have HOC := Lib.hid hoc
          clear hcd hoc
          obtain ⟨a2, cap2, rfl, hcl⟩ := SlX.len hSl (by omega)
          have HV2 := Lib.hid (SlX.view hSl (by omega))
          obtain ⟨PL, hPL⟩ : ∃ PL, PL = wGr wg (g.take k) ++ (if k = 0 then [] else [44, 32]) := ⟨_, rfl⟩
          have htk2 : wGr wg (g.take (k + 1)) = PL ++ wCx wg c := by rw [hPL, List.append_assoc]; exact htk
          have hplen : PL.length + (wCx wg c).length ≤ 1000000000 := by
            have := HTOT.out; rw [htk2, List.length_append] at hle; omega
          have hus : u.size ≤ PL.length := by rw [size_of_L HU.out, hPL, List.length_append]; omega
          have HTK := Lib.hid htk2
          have HB := Lib.hid hb
          have HPL := Lib.hid hPL
          clear hSl htk hle htk2 hb hPL
          have hcase : (k = 0 ∧ ¬ 0 < k) ∨ (k ≠ 0 ∧ 0 < k) := by omega
          rcases hcase with ⟨hk0, hki⟩ | ⟨hk0, hki⟩
          all_goals
            have HK0 := Lib.hid hk0
            clear hk0
            go_wp2_with fail
            obtain ⟨y, hy⟩ : ∃ y, u ++ (⟨#[44, 32]⟩ : ByteArray) = y := ⟨_, rfl⟩
            try rw [hy]
            have HY := Lib.hid hy
            clear hy
            go_loopw [3, 23] (fun out i wm => ∃ k2 : Nat, ∃ u2, k2 ≤ c.length ∧ i = .int .i64 k2 ∧ out = .string u2 ∧ L u2 = PL ++ wCx wg (c.take k2) ∧ Below w.heap.size w wm) (fun _ i _ => c.length - (intOf i).toNat)
            case atStart =>
              refine ⟨0, _, Nat.zero_le _, rfl, rfl, ?_, HB.out⟩
              rw [HPL.out, List.take_zero]
              first
                | (rw [if_pos HK0.out, HU.out]; simp [wCx]; done)
                | (rw [if_neg HK0.out, ← HY.out, L_append, HU.out]; simp [wCx, L]; done)
            case round =>
              obtain ⟨k2, u2, hk2, rfl, rfl, hu2, hb2⟩ := hrel
              have HU2 := Lib.hid hu2
              clear hu2
              by_cases hlt2 : k2 < c.length
              · rcases HV2.out with ⟨rfl, _⟩ | ⟨b2, o2, cap2', hve2, hX2, _, hcb2, hpos2, hc2⟩
                · simp at hlt2
                · simp only [Value.slice.injEq, true_and] at hve2
                  obtain ⟨rfl, rfl⟩ := hve2
                  obtain ⟨cs2, hcs21, hcs22, pv, hcs23, hpsz, hSl3⟩ := hc2 k2 hlt2
                  subst hcs23
                  have h20 := cell_keep hb2 (by simpa using hcs22 0 _ rfl)
                  have h21 := cell_keep hb2 (by simpa using hcs22 1 _ rfl)
                  clear hcs21 hcs22 hc2
                  have htk := wCx_take (wg := wg) hlt2
                  have hle := wCx_le (wg := wg) c (a := k2 + 1) (b := c.length) (by omega)
                  rw [List.take_length] at hle
                  have hop := HOC.out.each k2 hlt2
                  obtain ⟨p, hpd⟩ : ∃ p, c[k2] = p := ⟨_, rfl⟩
                  rw [hpd] at hSl3 hpsz h20 htk hop
                  have HOP := Lib.hid hop
                  clear hpd hop
                  obtain ⟨a3, cap3, rfl, hpl⟩ := SlX.len hSl3 (by omega)
                  have HV3 := Lib.hid (SlX.view hSl3 (by omega))
                  obtain ⟨QL, hQL⟩ : ∃ QL, QL = (PL ++ wCx wg (c.take k2)) ++ (if k2 = 0 then [] else wJoin p.1) := ⟨_, rfl⟩
                  have htk2 : PL ++ wCx wg (c.take (k2 + 1)) = QL ++ wParts wg p.2 := by rw [hQL, htk]; simp only [List.append_assoc]
                  have hqlen : QL.length + (wParts wg p.2).length ≤ 1000000000 := by
                    have h1 := congrArg List.length htk2
                    rw [List.length_append, List.length_append] at h1
                    omega
                  have hus2 : u2.size ≤ QL.length := by rw [size_of_L HU2.out, hQL]; simp only [List.length_append]; omega
                  have hbs2 := hb2.size
                  have HBA := Lib.hid (hb2.alloc hb2.size (.cells #[.string p.1, .slice a3 p.2.length cap3] 67))
                  have HTK2 := Lib.hid htk2
                  have HQL := Lib.hid hQL
                  clear hSl3 htk hle htk2 hb2 hQL
                  have hcase2 : (k2 = 0 ∧ ¬ 0 < (k2 : Int) ∧ True) ∨ (k2 ≠ 0 ∧ 0 < (k2 : Int) ∧ (p.1.toList == [32]) = true) ∨ (k2 ≠ 0 ∧ 0 < (k2 : Int) ∧ (p.1.toList == [32]) = false) := by
                    by_cases h : k2 = 0
                    · exact .inl ⟨h, by omega, trivial⟩
                    · by_cases h2 : (p.1.toList == [32]) = true
                      · exact .inr (.inl ⟨h, by omega, h2⟩)
                      · exact .inr (.inr ⟨h, by omega, Bool.eq_false_iff.2 h2⟩)
                  have hjs : k2 ≠ 0 → p.1.size ≤ 1 := fun h => by
                    have h1 := (HOP.out).2 (by omega)
                    rcases h1 with h1 | h1 | h1 | h1 <;> rw [size_of_L h1] <;> simp
                  rcases hcase2 with ⟨hk20, hk2i, hjoin⟩ | ⟨hk20, hk2i, hjoin⟩ | ⟨hk20, hk2i, hjoin⟩
                  all_goals
                    have hj1 : p.1.size ≤ 1 ∨ k2 = 0 := by
                      by_cases h : k2 = 0
                      · exact .inr h
                      · exact .inl (hjs h)
                    have HK20 := Lib.hid hk20
                    have HJ := Lib.hid hjoin
                    clear hjs hk20
                    go_wp2_with fail
                    go_loopw [3, 48] (fun out i wn => ∃ k3 : Nat, ∃ u3, k3 ≤ p.2.length ∧ i = .int .i64 k3 ∧ out = .string u3 ∧ L u3 = QL ++ wParts wg (p.2.take k3) ∧ Below w.heap.size w wn) (fun _ i _ => p.2.length - (intOf i).toNat)
                    case atStart =>
                      refine ⟨0, _, Nat.zero_le _, rfl, rfl, ?_, HBA.out⟩
                      rw [HQL.out, List.take_zero]
                      first
                        | (rw [if_pos HK20.out, HU2.out]; simp [wParts]; done)
                        | (have hj := HJ.out; rw [L_toList] at hj; have hj2 : L p.1 = [32] := by simpa using hj
                           rw [if_neg HK20.out, L_append, HU2.out, wJoin, if_pos hj2]; simp [wParts, L]; done)
                        | (have hj := HJ.out; rw [L_toList] at hj; have hj2 : ¬ L p.1 = [32] := by simpa using hj
                           rw [if_neg HK20.out, L_append, L_append, L_append, HU2.out, wJoin, if_neg hj2]; simp [wParts, L]; done)
                    case round =>
                      obtain ⟨k3, u3, hk3, rfl, rfl, hu3, hb3⟩ := hrel
                      have HU3 := Lib.hid hu3
                      clear hu3
                      by_cases hlt3 : k3 < p.2.length
                      · rcases HV3.out with ⟨hpe, _⟩ | ⟨b3, o3, cap3', hve3, hX3, _, hcb3, hpos3, hc3⟩
                        · rw [hpe] at hlt3; simp at hlt3
                        · simp only [Value.slice.injEq, true_and] at hve3
                          obtain ⟨rfl, rfl⟩ := hve3
                          obtain ⟨cs3, hcs31, hcs32, sv, hcs33, hz1, hz2, hz3, hz4, hz5, hR3⟩ := hc3 k3 hlt3
                          subst hcs33
                          obtain ⟨sa, sc, rfl⟩ := RG.val hR3
                          have f0 := cell_keep hb3 (by simpa using hcs32 0 _ rfl)
                          have f1 := cell_keep hb3 (by simpa using hcs32 1 _ rfl)
                          have f2 := cell_keep hb3 (by simpa using hcs32 2 _ rfl)
                          have f3 := cell_keep hb3 (by simpa using hcs32 3 _ rfl)
                          have f4 := cell_keep hb3 (by simpa using hcs32 4 _ rfl)
                          have f5 := cell_keep hb3 (by simpa using hcs32 5 _ rfl)
                          have f6 := cell_keep hb3 (by simpa using hcs32 6 _ rfl)
                          have f7 := cell_keep hb3 (by simpa using hcs32 7 _ rfl)
                          have f8 := cell_keep hb3 (by simpa using hcs32 8 _ rfl)
                          clear hcs31 hcs32 hc3
                          have htk3 := wParts_take (wg := wg) hlt3
                          have hle3 := wParts_le (wg := wg) p.2 (a := k3 + 1) (b := p.2.length) (by omega)
                          rw [List.take_length] at hle3
                          have hoq := (HOP.out.1.each k3 hlt3).1
                          obtain ⟨q, hqd⟩ : ∃ q, p.2[k3] = q := ⟨_, rfl⟩
                          rw [hqd] at f0 f1 f2 f3 f4 f5 f6 f7 f8 hz1 hz2 hz3 hz4 hz5 hR3 htk3 hoq
                          have hb4 := hb3.alloc hb3.size (.cells #[.int .i64 q.kind, .string q.name, .string q.value, .bool q.fold, .int .i64 q.a, .int .i64 q.b, .bool q.last, .bool q.ofType, .slice sa q.subs.length sc] 69)
                          have hs := write_any wg (okG D) (wr.alloc (.cells #[.int .i64 q.kind, .string q.name, .string q.value, .bool q.fold, .int .i64 q.a, .int .i64 q.b, .bool q.last, .bool q.ofType, .slice sa q.subs.length sc] 69)) q sa sc hoq hB
                            (fun hg w' hb' => IH X w' _ q.subs d (by omega) ((RG.rep d).keep (KeepX.of_all (below_step hb4 hb')) hR3) hg)
                          obtain ⟨t, ht⟩ : ∃ t, bs (wSm wg q) = t := ⟨_, rfl⟩
                          rw [ht] at hs
                          have hts : u3.size + t.size ≤ 1000000000 := by
                            rw [size_of_L HU3.out, ← ht, bs_size, List.length_append]
                            rw [htk3, List.length_append] at hle3
                            omega
                          have hts1 : u3.size ≤ 1000000000 := by omega
                          have hts2 : t.size ≤ 1000000000 := by omega
                          have HS := Lib.hid hs
                          have HB4 := Lib.hid hb4
                          have HT := Lib.hid ht
                          have HTK3 := Lib.hid htk3
                          clear hs hb4 hb3 hR3 hqd ht htk3 hle3 hoq
                          go_wp2_with (go_at_call 28; refine HS.out.mono ?_; rintro e w2 ⟨rfl, hb5⟩; have HB5 := Lib.hid (below_step HB4.out hb5); clear hb5)
                          go_roundw
                          case rel => exact ⟨k3 + 1, _, by omega, by go_num, rfl, by rw [L_append, HU3.out, HTK3.out, ← HT.out, L_bs, List.append_assoc], HB5.out⟩
                          case measure => simp [intOf]; omega
                      · obtain rfl : k3 = p.2.length := by omega
                        have HB3 := Lib.hid hb3
                        clear hb3
                        go_wp2_with fail
                        go_roundw
                        case rel => exact ⟨k2 + 1, _, by omega, by go_num, rfl, by rw [HU3.out, List.take_length, HTK2.out], HB3.out⟩
                        case measure => simp [intOf]; omega
              · obtain rfl : k2 = c.length := by omega
                have HB2 := Lib.hid hb2
                clear hb2
                go_wp2_with fail
                go_roundw
                case rel => exact ⟨k + 1, _, by omega, by go_num, rfl, by rw [HU2.out, List.take_length, HTK.out], HB2.out⟩
                case measure => simp [intOf]; omega
      · obtain rfl : k = g.length := by omega
        have HB := Lib.hid hb
        clear hb
        go_wp2_with fail
        go_ret
        exact ⟨ret_str (bs_of_L (by rw [HU.out, List.take_length])), HB.out⟩
end Go.Proofs.YteaapgijeehhfaaGreatDoor
