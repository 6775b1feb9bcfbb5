/- spec.Value: what may be the value of an attribute that is asked. -/
import Derived.Test.YteaapgijeehhfaaGreatDoorZ00
namespace Go.Proofs.YteaapgijeehhfaaGreatDoor
open Go.RowKit

theorem value_class (c : UInt8) :
    ((c.toNat : Int) < 32 ∧ vch c = false) ∨ (¬ (c.toNat : Int) < 32 ∧ 126 < (c.toNat : Int) ∧ vch c = false) ∨
    (¬ (c.toNat : Int) < 32 ∧ ¬ 126 < (c.toNat : Int) ∧ ((c.toNat : Int) == 34) = true ∧ vch c = false) ∨
    (¬ (c.toNat : Int) < 32 ∧ ¬ 126 < (c.toNat : Int) ∧ ((c.toNat : Int) == 34) = false ∧ ((c.toNat : Int) == 92) = true ∧ vch c = false) ∨
    (¬ (c.toNat : Int) < 32 ∧ ¬ 126 < (c.toNat : Int) ∧ ((c.toNat : Int) == 34) = false ∧ ((c.toNat : Int) == 92) = false ∧ vch c = true) := by
  simp only [vch, beq_iff_eq, beq_eq_false_iff_ne, decide_eq_true_eq, decide_eq_false_iff_not]
  omega

/-- A function answers, and where it says yes p holds. -/
def OkPost (p : Prop) (w : World) (e : Ending) (w' : World) : Prop := ∃ r, e = .returned (.bool r) ∧ (r = true → p) ∧ Below w.heap.size w w'
theorem OkPost.no {p : Prop} {w w' : World} (h : Below w.heap.size w w') : OkPost p w (.returned (.bool false)) w' := ⟨false, rfl, by simp, h⟩
theorem OkPost.is {p : Prop} {w w' : World} {r : Bool} (hr : r = true → p) (h : Below w.heap.size w w') : OkPost p w (.returned (.bool r)) w' := ⟨r, rfl, hr, h⟩

set_option maxHeartbeats 2000000 in
theorem value_any (s : ByteArray) (w : World) (hs : s.size ≤ 140737488351232) :
    Calls Tryz.prog 50 #[.string s] w (OkPost (valueL (L s) = true) w) := by
  go_enter Tryz.func50, Tryz.ntmps50
  go_wp2
  go_loop [3, 4, 7] (fun seen _ i => ∃ k : Nat, ∃ b, k ≤ s.size ∧ i = .int .i64 k ∧ seen = .bool b ∧ ((L s).take k).all vch = true ∧ (b = true → blankL ((L s).take k) = false)) (fun _ _ i => s.size - (intOf i).toNat)
  case atStart => exact ⟨0, false, Nat.zero_le _, rfl, rfl, rfl, by simp⟩
  case round =>
    obtain ⟨k, b, hk, rfl, rfl, hr, hbl⟩ := hrel
    have HR := Lib.hid hr
    have HB := Lib.hid hbl
    clear hr hbl
    by_cases hlt : k < s.size
    · rcases value_class s[k] with ⟨h1, h5⟩ | ⟨h1, h2, h5⟩ | ⟨h1, h2, h3, h5⟩ | ⟨h1, h2, h3, h4, h5⟩ | ⟨h1, h2, h3, h4, h5⟩
      case inr.inr.inr.inr =>
        have HV := Lib.hid h5
        clear h5
        have hst : ∀ c : Bool, (c = true → b = true ∨ s[k].toNat ≠ 32) → c = true → blankL ((L s).take (k + 1)) = false := by
          intro c hc h
          unfold blankL
          rw [take_snoc s k hlt, List.all_append]
          rcases hc h with hb | hb
          · have := HB.out hb; unfold blankL at this; rw [this]; rfl
          · simp [isSp, hb]
        have HST := Lib.hid hst
        clear hst
        obtain ⟨sp, hsp⟩ : ∃ sp, ((s[k].toNat : Int) != 32) = sp := ⟨_, rfl⟩
        have HSP := Lib.hid hsp
        cases b
        · cases sp
          · go_wp2
            go_round
            case rel => exact ⟨k + 1, false, by omega, by go_num, rfl, all_succ hlt HR.out HV.out, fun h => by simp at h⟩
            case measure => simp [intOf]; omega
          · go_wp2
            go_round
            case rel => exact ⟨k + 1, true, by omega, by go_num, rfl, all_succ hlt HR.out HV.out, HST.out true (fun _ => .inr (by have h := HSP.out; simp at h; omega))⟩
            case measure => simp [intOf]; omega
        · go_wp2
          go_round
          case rel => exact ⟨k + 1, true, by omega, by go_num, rfl, all_succ hlt HR.out HV.out, HST.out true (fun _ => .inl rfl)⟩
          case measure => simp [intOf]; omega
      all_goals
        clear h5
        go_wp2
        go_ret
        exact OkPost.no (Below.refl _ _)
    · obtain rfl : k = s.size := by omega
      cases b
      · go_wp2
        go_ret
        exact OkPost.no (Below.refl _ _)
      · by_cases hl : s.size ≤ 40
        · have hl2 : (s.size : Int) ≤ 40 := by omega
          go_wp2
          go_ret
          refine OkPost.is (fun _ => ?_) (Below.refl _ _)
          have h1 := HR.out
          have h2 := HB.out trivial
          rw [take_end s _ (by omega)] at h1 h2
          unfold valueL
          rw [h1, h2]
          simp only [Bool.not_false, Bool.true_and, decide_eq_true_eq]
          rw [L_len]; exact hl
        · have hl2 : ¬ (s.size : Int) ≤ 40 := by omega
          go_wp2
          go_ret
          exact OkPost.is (by simp) (Below.refl _ _)

end Go.Proofs.YteaapgijeehhfaaGreatDoor
