/- zzFits: whether a tree holds nothing too long. -/
/- spec.Decimal, Count, sign: how numbers and signs are written; printed by genw0.py. -/
/- spec.write: how a simple selector is written; printed by genw1.py. -/
import Derived.Test.YteaapgijeehhfaaGreatDoorZ32
import Derived.Test.YteaapgijeehhfaaGreatDoorZ18
import Derived.Test.YteaapgijeehhfaaGreatDoorZ19
import Derived.Test.YteaapgijeehhfaaGreatDoorZ28
import Derived.Laws.BytesArg
set_option linter.unusedSimpArgs false
set_option linter.unusedVariables false
namespace Go.Proofs.YteaapgijeehhfaaGreatDoor
open Go.RowKit

set_option maxRecDepth 100000 in
set_option maxHeartbeats 2000000 in
theorem fits4_any (w : World) (k v : ByteArray) (hk : k.size ≤ 140737488351232) (hv : v.size ≤ 140737488351232) :
    Calls Tryz.prog 49 #[.agg #[.string k, .string v]] w (OkPost (k.size ≤ 2147483647 ∧ v.size ≤ 2147483647) w) := by
  by_cases h1 : 2147483647 < k.size
  · have h1i : 2147483647 < (k.size : Int) := by omega
    go_enter Tryz.func49, Tryz.ntmps49
    go_wp2_with fail
    go_ret
    exact OkPost.no (below_alloc w _)
  · have h1i : ¬ 2147483647 < (k.size : Int) := by omega
    by_cases h2 : 2147483647 < v.size
    · have h2i : 2147483647 < (v.size : Int) := by omega
      go_enter Tryz.func49, Tryz.ntmps49
      go_wp2_with fail
      go_ret
      exact OkPost.no (below_alloc w _)
    · have h2i : ¬ 2147483647 < (v.size : Int) := by omega
      go_enter Tryz.func49, Tryz.ntmps49
      go_wp2_with fail
      go_ret
      exact OkPost.is (fun _ => ⟨by omega, by omega⟩) (below_alloc w _)

set_option maxRecDepth 100000 in
set_option maxHeartbeats 2000000 in
theorem fits3_any (X : Nat → Prop) (w : World) (v : Value) (l : List (ByteArray × ByteArray)) (h : SlI 2 32 EAt X w v l) :
    Calls Tryz.prog 34 #[v] w (OkPost (∀ a ∈ l, a.1.size ≤ 2147483647 ∧ a.2.size ≤ 2147483647) w) := by
  have HV := Lib.hid (SlI.view h (by omega))
  obtain ⟨a, cap, rfl, hal⟩ := SlI.len h (by omega)
  clear h
  by_cases h1 : 2147483647 < l.length
  · have h1i : 2147483647 < (l.length : Int) := by omega
    go_enter Tryz.func34, Tryz.ntmps34
    go_wp2_with fail
    go_ret
    exact OkPost.no (Below.refl _ _)
  have h1i : ¬ 2147483647 < (l.length : Int) := by omega
  go_enter Tryz.func34, Tryz.ntmps34
  go_wp2_with fail
  go_loopw [10] (fun i wr => ∃ k : Nat, k ≤ l.length ∧ i = .int .i64 k ∧ (∀ j (hj : j < l.length), j < k → l[j].1.size ≤ 2147483647 ∧ l[j].2.size ≤ 2147483647) ∧ Below w.heap.size w wr) (fun i _ => l.length - (intOf i).toNat)
  case atStart => exact ⟨0, Nat.zero_le _, rfl, fun j _ h => by omega, Below.refl _ _⟩
  case round =>
    obtain ⟨k, hk, rfl, hall, hb⟩ := hrel
    have HALL := Lib.hid hall
    clear hall
    by_cases hlt : k < l.length
    · rcases HV.out with ⟨rfl, _⟩ | ⟨b, o, cap', hve, hX, _, hcb, _, hc⟩
      · simp at hlt
      · simp only [Value.slice.injEq, true_and] at hve
        obtain ⟨rfl, rfl⟩ := hve
        obtain ⟨cs, hcs1, hcs2, hcs3, hz1, hz2⟩ := hc k hlt
        subst hcs3
        have f0 := cell_keep hb (by simpa using hcs2 0 _ rfl)
        have f1 := cell_keep hb (by simpa using hcs2 1 _ rfl)
        clear hcs1 hcs2 hc
        obtain ⟨q, hqd⟩ : ∃ q, l[k] = q := ⟨_, rfl⟩
        rw [hqd] at f0 f1 hz1 hz2
        have hb4 := hb.alloc hb.size (.cells #[.string q.1, .string q.2] 86)
        have HS := Lib.hid (fits4_any (wr.alloc (.cells #[.string q.1, .string q.2] 86)) q.1 q.2 hz1 hz2)
        have HB4 := Lib.hid hb4
        have HQ := Lib.hid hqd
        clear hb hb4 hqd
        go_wp2_with (go_at_call 49; refine HS.out.mono ?_; rintro e w2 ⟨r, rfl, hr, hb5⟩; have HB5 := Lib.hid (below_step HB4.out hb5); have HR := Lib.hid hr; clear hr hb5; cases r)
        · go_ret
          exact OkPost.no HB5.out
        · go_roundw
          case rel =>
            refine ⟨k + 1, by omega, by go_num, fun j hj hjk => ?_, HB5.out⟩
            by_cases e : j = k
            · subst e; rw [HQ.out]; exact HR.out trivial
            · exact HALL.out j hj (by omega)
          case measure => simp [intOf]; omega
    · have HB := Lib.hid hb
      clear hb
      go_wp2_with fail
      go_ret
      refine OkPost.is (fun _ a ha => ?_) HB.out
      obtain ⟨j, hj, rfl⟩ := List.mem_iff_getElem.1 ha
      exact HALL.out j hj (by omega)

set_option maxRecDepth 100000 in
set_option maxHeartbeats 2000000 in
theorem fits2_any (X : Nat → Prop) (w : World) (n : Nd) (v : Value) (hz : n.data.size ≤ 140737488351232) (h : SlI 2 32 EAt X w v n.attrs) :
    Calls Tryz.prog 21 #[.agg #[.int .i64 n.parent, .int .i64 n.kind, .string n.data, v]] w (OkPost (n.data.size ≤ 2147483647) w) := by
  have HX := Lib.hid h
  obtain ⟨a, cap, rfl, hal⟩ := SlI.len h (by omega)
  have HS := Lib.hid (fits3_any X (w.alloc (.cells #[.int .i64 n.parent, .int .i64 n.kind, .string n.data, .slice a n.attrs.length cap] 51)) _ n.attrs ((SlI.rep EAt.rep (by omega)).keep (KeepX.of_all (below_alloc w _)) h))
  clear h
  by_cases h1 : 2147483647 < n.data.size
  · have h1i : 2147483647 < (n.data.size : Int) := by omega
    go_enter Tryz.func21, Tryz.ntmps21
    go_wp2_with fail
    go_ret
    exact OkPost.no (below_alloc w _)
  · have h1i : ¬ 2147483647 < (n.data.size : Int) := by omega
    go_enter Tryz.func21, Tryz.ntmps21
    go_wp2_with (go_at_call 34; refine HS.out.mono ?_; rintro e w2 ⟨r, rfl, _, hb5⟩; have HB5 := Lib.hid (below_step (below_alloc w _) hb5); clear hb5; cases r)
    · go_ret
      exact OkPost.no HB5.out
    · go_ret
      exact OkPost.is (fun _ => by omega) HB5.out

set_option maxRecDepth 100000 in
set_option maxHeartbeats 2000000 in
theorem fits1_any (X : Nat → Prop) (w : World) (v : Value) (l : List Nd) (h : RTI X w v l) :
    Calls Tryz.prog 10 #[v] w (OkPost (∀ n ∈ l, n.data.size ≤ 2147483647) w) := by
  have HV := Lib.hid (SlI.view h (by omega))
  obtain ⟨a, cap, rfl, hal⟩ := SlI.len h (by omega)
  clear h
  by_cases h1 : 2147483647 < l.length
  · have h1i : 2147483647 < (l.length : Int) := by omega
    go_enter Tryz.func10, Tryz.ntmps10
    go_wp2_with fail
    go_ret
    exact OkPost.no (Below.refl _ _)
  have h1i : ¬ 2147483647 < (l.length : Int) := by omega
  go_enter Tryz.func10, Tryz.ntmps10
  go_wp2_with fail
  go_loopw [10] (fun i wr => ∃ k : Nat, k ≤ l.length ∧ i = .int .i64 k ∧ (∀ j (hj : j < l.length), j < k → l[j].data.size ≤ 2147483647) ∧ Below w.heap.size w wr) (fun i _ => l.length - (intOf i).toNat)
  case atStart => exact ⟨0, Nat.zero_le _, rfl, fun j _ h => by omega, Below.refl _ _⟩
  case round =>
    obtain ⟨k, hk, rfl, hall, hb⟩ := hrel
    have HALL := Lib.hid hall
    clear hall
    by_cases hlt : k < l.length
    · rcases HV.out with ⟨rfl, _⟩ | ⟨b, o, cap', hve, hX, _, hcb, _, hc⟩
      · simp at hlt
      · simp only [Value.slice.injEq, true_and] at hve
        obtain ⟨rfl, rfl⟩ := hve
        obtain ⟨cs, hcs1, hcs2, av, hcs3, hz1, hz2, hz3, hSl⟩ := hc k hlt
        subst hcs3
        have f0 := cell_keep hb (by simpa using hcs2 0 _ rfl)
        have f1 := cell_keep hb (by simpa using hcs2 1 _ rfl)
        have f2 := cell_keep hb (by simpa using hcs2 2 _ rfl)
        have f3 := cell_keep hb (by simpa using hcs2 3 _ rfl)
        clear hcs1 hcs2 hc
        obtain ⟨n, hnd⟩ : ∃ n, l[k] = n := ⟨_, rfl⟩
        rw [hnd] at f0 f1 f2 hz1 hz2 hz3 hSl
        obtain ⟨ava, avc, rfl, hal2⟩ := SlI.len hSl (by omega)
        have hb4 := hb.alloc hb.size (.cells #[.int .i64 n.parent, .int .i64 n.kind, .string n.data, .slice ava n.attrs.length avc] 51)
        have HS := Lib.hid (fits2_any X (wr.alloc (.cells #[.int .i64 n.parent, .int .i64 n.kind, .string n.data, .slice ava n.attrs.length avc] 51)) n _ hz1 ((SlI.rep EAt.rep (by omega)).keep (KeepX.of_all hb4) hSl))
        have HB4 := Lib.hid hb4
        have HQ := Lib.hid hnd
        clear hb hb4 hnd hSl
        go_wp2_with (go_at_call 21; refine HS.out.mono ?_; rintro e w2 ⟨r, rfl, hr, hb5⟩; have HB5 := Lib.hid (below_step HB4.out hb5); have HR := Lib.hid hr; clear hr hb5; cases r)
        · go_ret
          exact OkPost.no HB5.out
        · go_roundw
          case rel =>
            refine ⟨k + 1, by omega, by go_num, fun j hj hjk => ?_, HB5.out⟩
            by_cases e : j = k
            · subst e; rw [HQ.out]; exact HR.out trivial
            · exact HALL.out j hj (by omega)
          case measure => simp [intOf]; omega
    · have HB := Lib.hid hb
      clear hb
      go_wp2_with fail
      go_ret
      refine OkPost.is (fun _ a ha => ?_) HB.out
      obtain ⟨j, hj, rfl⟩ := List.mem_iff_getElem.1 ha
      exact HALL.out j hj (by omega)

end Go.Proofs.YteaapgijeehhfaaGreatDoor

namespace Go.Proofs.YteaapgijeehhfaaGreatDoor
open Go.RowKit

theorem conv_one (wx : World) (n : Int) : (convert 133 9 (.slice (some ⟨wx.heap.size, 0, none⟩) 1 1)).run Tryz.prog (wx.alloc (.cells #[.int .u8 n] 5)) = .ok (.string (strOfNums [n])) (wx.alloc (.cells #[.int .u8 n] 5)) := by
  refine run_convert_bytes_arg _ 133 5 Tryz.underlying133 Tryz.underlying5 _ 0 1 1 [n] rfl (fun i hi => ?_) 9 Tryz.underlying9
  obtain rfl : i = 0 := by omega
  rw [cell_of_heap (heap_alloc_new wx _)]; rfl

set_option maxRecDepth 100000 in
set_option maxHeartbeats 2000000 in
theorem dec_0 (w : World) : Calls Tryz.prog 54 #[.int .i64 0] w fun e w' => e = .returned (.string ⟨#[48]⟩) ∧ Below w.heap.size w w' := by
  have hcv : ∀ wx : World, (convert 133 9 (.slice (some ⟨wx.heap.size, 0, none⟩) 1 1)).run Tryz.prog (wx.alloc (.cells #[.int .u8 48] 5)) = .ok (.string ⟨#[48]⟩) (wx.alloc (.cells #[.int .u8 48] 5)) := fun wx => conv_one wx 48
  go_enter Tryz.func54, Tryz.ntmps54
  go_wp2_with fail
  go_loopw [0, 3] (fun t o wr => t = .int .i64 0 ∧ o = .string ⟨#[]⟩ ∧ Below w.heap.size w wr) (fun _ _ _ => 0)
  case atStart => exact ⟨rfl, rfl, Below.refl _ _⟩
  case round =>
    obtain ⟨rfl, rfl, hb⟩ := hrel
    go_wp2_with fail
    go_ret
    exact ⟨rfl, hb.alloc hb.size _⟩

set_option maxRecDepth 100000 in
set_option maxHeartbeats 2000000 in
theorem dec_1 (w : World) : Calls Tryz.prog 54 #[.int .i64 1] w fun e w' => e = .returned (.string ⟨#[49]⟩) ∧ Below w.heap.size w w' := by
  have hcv : ∀ wx : World, (convert 133 9 (.slice (some ⟨wx.heap.size, 0, none⟩) 1 1)).run Tryz.prog (wx.alloc (.cells #[.int .u8 49] 5)) = .ok (.string ⟨#[49]⟩) (wx.alloc (.cells #[.int .u8 49] 5)) := fun wx => conv_one wx 49
  go_enter Tryz.func54, Tryz.ntmps54
  go_wp2_with fail
  go_loopw [0, 3] (fun t o wr => t = .int .i64 1 ∧ o = .string ⟨#[]⟩ ∧ Below w.heap.size w wr) (fun _ _ _ => 0)
  case atStart => exact ⟨rfl, rfl, Below.refl _ _⟩
  case round =>
    obtain ⟨rfl, rfl, hb⟩ := hrel
    go_wp2_with fail
    go_ret
    exact ⟨rfl, hb.alloc hb.size _⟩

set_option maxRecDepth 100000 in
set_option maxHeartbeats 2000000 in
theorem dec_2 (w : World) : Calls Tryz.prog 54 #[.int .i64 2] w fun e w' => e = .returned (.string ⟨#[50]⟩) ∧ Below w.heap.size w w' := by
  have hcv : ∀ wx : World, (convert 133 9 (.slice (some ⟨wx.heap.size, 0, none⟩) 1 1)).run Tryz.prog (wx.alloc (.cells #[.int .u8 50] 5)) = .ok (.string ⟨#[50]⟩) (wx.alloc (.cells #[.int .u8 50] 5)) := fun wx => conv_one wx 50
  go_enter Tryz.func54, Tryz.ntmps54
  go_wp2_with fail
  go_loopw [0, 3] (fun t o wr => t = .int .i64 2 ∧ o = .string ⟨#[]⟩ ∧ Below w.heap.size w wr) (fun _ _ _ => 0)
  case atStart => exact ⟨rfl, rfl, Below.refl _ _⟩
  case round =>
    obtain ⟨rfl, rfl, hb⟩ := hrel
    go_wp2_with fail
    go_ret
    exact ⟨rfl, hb.alloc hb.size _⟩

set_option maxRecDepth 100000 in
set_option maxHeartbeats 2000000 in
theorem dec_3 (w : World) : Calls Tryz.prog 54 #[.int .i64 3] w fun e w' => e = .returned (.string ⟨#[51]⟩) ∧ Below w.heap.size w w' := by
  have hcv : ∀ wx : World, (convert 133 9 (.slice (some ⟨wx.heap.size, 0, none⟩) 1 1)).run Tryz.prog (wx.alloc (.cells #[.int .u8 51] 5)) = .ok (.string ⟨#[51]⟩) (wx.alloc (.cells #[.int .u8 51] 5)) := fun wx => conv_one wx 51
  go_enter Tryz.func54, Tryz.ntmps54
  go_wp2_with fail
  go_loopw [0, 3] (fun t o wr => t = .int .i64 3 ∧ o = .string ⟨#[]⟩ ∧ Below w.heap.size w wr) (fun _ _ _ => 0)
  case atStart => exact ⟨rfl, rfl, Below.refl _ _⟩
  case round =>
    obtain ⟨rfl, rfl, hb⟩ := hrel
    go_wp2_with fail
    go_ret
    exact ⟨rfl, hb.alloc hb.size _⟩

set_option maxRecDepth 100000 in
set_option maxHeartbeats 2000000 in
theorem dec_4 (w : World) : Calls Tryz.prog 54 #[.int .i64 4] w fun e w' => e = .returned (.string ⟨#[52]⟩) ∧ Below w.heap.size w w' := by
  have hcv : ∀ wx : World, (convert 133 9 (.slice (some ⟨wx.heap.size, 0, none⟩) 1 1)).run Tryz.prog (wx.alloc (.cells #[.int .u8 52] 5)) = .ok (.string ⟨#[52]⟩) (wx.alloc (.cells #[.int .u8 52] 5)) := fun wx => conv_one wx 52
  go_enter Tryz.func54, Tryz.ntmps54
  go_wp2_with fail
  go_loopw [0, 3] (fun t o wr => t = .int .i64 4 ∧ o = .string ⟨#[]⟩ ∧ Below w.heap.size w wr) (fun _ _ _ => 0)
  case atStart => exact ⟨rfl, rfl, Below.refl _ _⟩
  case round =>
    obtain ⟨rfl, rfl, hb⟩ := hrel
    go_wp2_with fail
    go_ret
    exact ⟨rfl, hb.alloc hb.size _⟩

set_option maxRecDepth 100000 in
set_option maxHeartbeats 2000000 in
theorem dec_5 (w : World) : Calls Tryz.prog 54 #[.int .i64 5] w fun e w' => e = .returned (.string ⟨#[53]⟩) ∧ Below w.heap.size w w' := by
  have hcv : ∀ wx : World, (convert 133 9 (.slice (some ⟨wx.heap.size, 0, none⟩) 1 1)).run Tryz.prog (wx.alloc (.cells #[.int .u8 53] 5)) = .ok (.string ⟨#[53]⟩) (wx.alloc (.cells #[.int .u8 53] 5)) := fun wx => conv_one wx 53
  go_enter Tryz.func54, Tryz.ntmps54
  go_wp2_with fail
  go_loopw [0, 3] (fun t o wr => t = .int .i64 5 ∧ o = .string ⟨#[]⟩ ∧ Below w.heap.size w wr) (fun _ _ _ => 0)
  case atStart => exact ⟨rfl, rfl, Below.refl _ _⟩
  case round =>
    obtain ⟨rfl, rfl, hb⟩ := hrel
    go_wp2_with fail
    go_ret
    exact ⟨rfl, hb.alloc hb.size _⟩

set_option maxRecDepth 100000 in
set_option maxHeartbeats 2000000 in
theorem dec_6 (w : World) : Calls Tryz.prog 54 #[.int .i64 6] w fun e w' => e = .returned (.string ⟨#[54]⟩) ∧ Below w.heap.size w w' := by
  have hcv : ∀ wx : World, (convert 133 9 (.slice (some ⟨wx.heap.size, 0, none⟩) 1 1)).run Tryz.prog (wx.alloc (.cells #[.int .u8 54] 5)) = .ok (.string ⟨#[54]⟩) (wx.alloc (.cells #[.int .u8 54] 5)) := fun wx => conv_one wx 54
  go_enter Tryz.func54, Tryz.ntmps54
  go_wp2_with fail
  go_loopw [0, 3] (fun t o wr => t = .int .i64 6 ∧ o = .string ⟨#[]⟩ ∧ Below w.heap.size w wr) (fun _ _ _ => 0)
  case atStart => exact ⟨rfl, rfl, Below.refl _ _⟩
  case round =>
    obtain ⟨rfl, rfl, hb⟩ := hrel
    go_wp2_with fail
    go_ret
    exact ⟨rfl, hb.alloc hb.size _⟩

set_option maxRecDepth 100000 in
set_option maxHeartbeats 2000000 in
theorem dec_7 (w : World) : Calls Tryz.prog 54 #[.int .i64 7] w fun e w' => e = .returned (.string ⟨#[55]⟩) ∧ Below w.heap.size w w' := by
  have hcv : ∀ wx : World, (convert 133 9 (.slice (some ⟨wx.heap.size, 0, none⟩) 1 1)).run Tryz.prog (wx.alloc (.cells #[.int .u8 55] 5)) = .ok (.string ⟨#[55]⟩) (wx.alloc (.cells #[.int .u8 55] 5)) := fun wx => conv_one wx 55
  go_enter Tryz.func54, Tryz.ntmps54
  go_wp2_with fail
  go_loopw [0, 3] (fun t o wr => t = .int .i64 7 ∧ o = .string ⟨#[]⟩ ∧ Below w.heap.size w wr) (fun _ _ _ => 0)
  case atStart => exact ⟨rfl, rfl, Below.refl _ _⟩
  case round =>
    obtain ⟨rfl, rfl, hb⟩ := hrel
    go_wp2_with fail
    go_ret
    exact ⟨rfl, hb.alloc hb.size _⟩

set_option maxRecDepth 100000 in
set_option maxHeartbeats 2000000 in
theorem dec_8 (w : World) : Calls Tryz.prog 54 #[.int .i64 8] w fun e w' => e = .returned (.string ⟨#[56]⟩) ∧ Below w.heap.size w w' := by
  have hcv : ∀ wx : World, (convert 133 9 (.slice (some ⟨wx.heap.size, 0, none⟩) 1 1)).run Tryz.prog (wx.alloc (.cells #[.int .u8 56] 5)) = .ok (.string ⟨#[56]⟩) (wx.alloc (.cells #[.int .u8 56] 5)) := fun wx => conv_one wx 56
  go_enter Tryz.func54, Tryz.ntmps54
  go_wp2_with fail
  go_loopw [0, 3] (fun t o wr => t = .int .i64 8 ∧ o = .string ⟨#[]⟩ ∧ Below w.heap.size w wr) (fun _ _ _ => 0)
  case atStart => exact ⟨rfl, rfl, Below.refl _ _⟩
  case round =>
    obtain ⟨rfl, rfl, hb⟩ := hrel
    go_wp2_with fail
    go_ret
    exact ⟨rfl, hb.alloc hb.size _⟩

set_option maxRecDepth 100000 in
set_option maxHeartbeats 2000000 in
theorem dec_9 (w : World) : Calls Tryz.prog 54 #[.int .i64 9] w fun e w' => e = .returned (.string ⟨#[57]⟩) ∧ Below w.heap.size w w' := by
  have hcv : ∀ wx : World, (convert 133 9 (.slice (some ⟨wx.heap.size, 0, none⟩) 1 1)).run Tryz.prog (wx.alloc (.cells #[.int .u8 57] 5)) = .ok (.string ⟨#[57]⟩) (wx.alloc (.cells #[.int .u8 57] 5)) := fun wx => conv_one wx 57
  go_enter Tryz.func54, Tryz.ntmps54
  go_wp2_with fail
  go_loopw [0, 3] (fun t o wr => t = .int .i64 9 ∧ o = .string ⟨#[]⟩ ∧ Below w.heap.size w wr) (fun _ _ _ => 0)
  case atStart => exact ⟨rfl, rfl, Below.refl _ _⟩
  case round =>
    obtain ⟨rfl, rfl, hb⟩ := hrel
    go_wp2_with fail
    go_ret
    exact ⟨rfl, hb.alloc hb.size _⟩

set_option maxRecDepth 100000 in
set_option maxHeartbeats 2000000 in
theorem dec_m1 (w : World) : Calls Tryz.prog 54 #[.int .i64 (-1)] w fun e w' => e = .returned (.string ⟨#[45, 49]⟩) ∧ Below w.heap.size w w' := by
  have HD := Lib.hid (dec_1 w)
  go_enter Tryz.func54, Tryz.ntmps54
  go_wp2_with (go_at_call 54; refine HD.out.mono ?_; rintro e w2 ⟨rfl, hb2⟩)
  go_ret
  exact ⟨rfl, hb2⟩

set_option maxRecDepth 100000 in
set_option maxHeartbeats 2000000 in
theorem dec_m2 (w : World) : Calls Tryz.prog 54 #[.int .i64 (-2)] w fun e w' => e = .returned (.string ⟨#[45, 50]⟩) ∧ Below w.heap.size w w' := by
  have HD := Lib.hid (dec_2 w)
  go_enter Tryz.func54, Tryz.ntmps54
  go_wp2_with (go_at_call 54; refine HD.out.mono ?_; rintro e w2 ⟨rfl, hb2⟩)
  go_ret
  exact ⟨rfl, hb2⟩

set_option maxRecDepth 100000 in
set_option maxHeartbeats 2000000 in
theorem dec_m3 (w : World) : Calls Tryz.prog 54 #[.int .i64 (-3)] w fun e w' => e = .returned (.string ⟨#[45, 51]⟩) ∧ Below w.heap.size w w' := by
  have HD := Lib.hid (dec_3 w)
  go_enter Tryz.func54, Tryz.ntmps54
  go_wp2_with (go_at_call 54; refine HD.out.mono ?_; rintro e w2 ⟨rfl, hb2⟩)
  go_ret
  exact ⟨rfl, hb2⟩

set_option maxRecDepth 100000 in
set_option maxHeartbeats 2000000 in
theorem dec_m4 (w : World) : Calls Tryz.prog 54 #[.int .i64 (-4)] w fun e w' => e = .returned (.string ⟨#[45, 52]⟩) ∧ Below w.heap.size w w' := by
  have HD := Lib.hid (dec_4 w)
  go_enter Tryz.func54, Tryz.ntmps54
  go_wp2_with (go_at_call 54; refine HD.out.mono ?_; rintro e w2 ⟨rfl, hb2⟩)
  go_ret
  exact ⟨rfl, hb2⟩

set_option maxRecDepth 100000 in
set_option maxHeartbeats 2000000 in
theorem dec_m5 (w : World) : Calls Tryz.prog 54 #[.int .i64 (-5)] w fun e w' => e = .returned (.string ⟨#[45, 53]⟩) ∧ Below w.heap.size w w' := by
  have HD := Lib.hid (dec_5 w)
  go_enter Tryz.func54, Tryz.ntmps54
  go_wp2_with (go_at_call 54; refine HD.out.mono ?_; rintro e w2 ⟨rfl, hb2⟩)
  go_ret
  exact ⟨rfl, hb2⟩

set_option maxRecDepth 100000 in
set_option maxHeartbeats 2000000 in
theorem dec_m6 (w : World) : Calls Tryz.prog 54 #[.int .i64 (-6)] w fun e w' => e = .returned (.string ⟨#[45, 54]⟩) ∧ Below w.heap.size w w' := by
  have HD := Lib.hid (dec_6 w)
  go_enter Tryz.func54, Tryz.ntmps54
  go_wp2_with (go_at_call 54; refine HD.out.mono ?_; rintro e w2 ⟨rfl, hb2⟩)
  go_ret
  exact ⟨rfl, hb2⟩

set_option maxRecDepth 100000 in
set_option maxHeartbeats 2000000 in
theorem dec_m7 (w : World) : Calls Tryz.prog 54 #[.int .i64 (-7)] w fun e w' => e = .returned (.string ⟨#[45, 55]⟩) ∧ Below w.heap.size w w' := by
  have HD := Lib.hid (dec_7 w)
  go_enter Tryz.func54, Tryz.ntmps54
  go_wp2_with (go_at_call 54; refine HD.out.mono ?_; rintro e w2 ⟨rfl, hb2⟩)
  go_ret
  exact ⟨rfl, hb2⟩

set_option maxRecDepth 100000 in
set_option maxHeartbeats 2000000 in
theorem dec_m8 (w : World) : Calls Tryz.prog 54 #[.int .i64 (-8)] w fun e w' => e = .returned (.string ⟨#[45, 56]⟩) ∧ Below w.heap.size w w' := by
  have HD := Lib.hid (dec_8 w)
  go_enter Tryz.func54, Tryz.ntmps54
  go_wp2_with (go_at_call 54; refine HD.out.mono ?_; rintro e w2 ⟨rfl, hb2⟩)
  go_ret
  exact ⟨rfl, hb2⟩

set_option maxRecDepth 100000 in
set_option maxHeartbeats 2000000 in
theorem dec_m9 (w : World) : Calls Tryz.prog 54 #[.int .i64 (-9)] w fun e w' => e = .returned (.string ⟨#[45, 57]⟩) ∧ Below w.heap.size w w' := by
  have HD := Lib.hid (dec_9 w)
  go_enter Tryz.func54, Tryz.ntmps54
  go_wp2_with (go_at_call 54; refine HD.out.mono ?_; rintro e w2 ⟨rfl, hb2⟩)
  go_ret
  exact ⟨rfl, hb2⟩

theorem dec_any (n : Int) (h1 : -9 ≤ n) (h2 : n ≤ 9) (w : World) : Calls Tryz.prog 54 #[.int .i64 n] w fun e w' => e = .returned (.string (bs (decL n))) ∧ Below w.heap.size w w' := by
  obtain rfl | rfl | rfl | rfl | rfl | rfl | rfl | rfl | rfl | rfl | rfl | rfl | rfl | rfl | rfl | rfl | rfl | rfl | rfl : n = -9 ∨ n = -8 ∨ n = -7 ∨ n = -6 ∨ n = -5 ∨ n = -4 ∨ n = -3 ∨ n = -2 ∨ n = -1 ∨ n = 0 ∨ n = 1 ∨ n = 2 ∨ n = 3 ∨ n = 4 ∨ n = 5 ∨ n = 6 ∨ n = 7 ∨ n = 8 ∨ n = 9 := by omega
  · exact dec_m9 w
  · exact dec_m8 w
  · exact dec_m7 w
  · exact dec_m6 w
  · exact dec_m5 w
  · exact dec_m4 w
  · exact dec_m3 w
  · exact dec_m2 w
  · exact dec_m1 w
  · exact dec_0 w
  · exact dec_1 w
  · exact dec_2 w
  · exact dec_3 w
  · exact dec_4 w
  · exact dec_5 w
  · exact dec_6 w
  · exact dec_7 w
  · exact dec_8 w
  · exact dec_9 w

theorem bs_append (l m : List UInt8) : bs l ++ bs m = bs (l ++ m) := L_inj (by rw [L_append, L_bs, L_bs, L_bs])

set_option maxRecDepth 100000 in
set_option maxHeartbeats 2000000 in
theorem count_any (a b : Int) (ha1 : -9 ≤ a) (ha2 : a ≤ 9) (hb1 : -9 ≤ b) (hb2 : b ≤ 9) (w : World) : Calls Tryz.prog 40 #[.int .i64 a, .int .i64 b] w fun e w' => e = .returned (.string (bs (countL a b))) ∧ Below w.heap.size w w' := by
  have HA := Lib.hid (fun w => dec_any a ha1 ha2 w)
  have HB := Lib.hid (fun w => dec_any b hb1 hb2 w)
  have la := decL_len a
  have lb := decL_len b
  obtain ⟨da, hda⟩ : ∃ da, bs (decL a) = da := ⟨_, rfl⟩
  obtain ⟨db, hdb⟩ : ∃ db, bs (decL b) = db := ⟨_, rfl⟩
  have sa : da.size ≤ 2 := by rw [← hda, bs_size]; exact la
  have sb : db.size ≤ 2 := by rw [← hdb, bs_size]; exact lb
  rw [hda] at HA
  rw [hdb] at HB
  have HDA := Lib.hid hda
  have HDB := Lib.hid hdb
  clear hda hdb la lb
  by_cases h : b < 0
  · have hc : countL a b = decL a ++ ([110] ++ decL b) := by unfold countL; rw [if_pos h]; rfl
    have HC := Lib.hid hc
    clear hc
    go_enter Tryz.func40, Tryz.ntmps40
    go_wp2_with (first | (go_at_call_of 54 a; refine (HA.out _).mono ?_; rintro e w2 ⟨rfl, hb2⟩; have HB2 := Lib.hid hb2; clear hb2) | (go_at_call_of 54 b; refine (HB.out _).mono ?_; rintro e w3 ⟨rfl, hb3⟩))
    go_ret
    refine ⟨ret_str ?_, below_step HB2.out hb3⟩
    rw [HC.out, ← HDA.out, ← HDB.out]
    exact L_inj (by simp only [L_append, L_bs, List.append_assoc]; rfl)
  · have hc : countL a b = decL a ++ ([110, 43] ++ decL b) := by unfold countL; rw [if_neg h]; rfl
    have HC := Lib.hid hc
    clear hc
    go_enter Tryz.func40, Tryz.ntmps40
    go_wp2_with (first | (go_at_call_of 54 a; refine (HA.out _).mono ?_; rintro e w2 ⟨rfl, hb2⟩; have HB2 := Lib.hid hb2; clear hb2) | (go_at_call_of 54 b; refine (HB.out _).mono ?_; rintro e w3 ⟨rfl, hb3⟩))
    go_ret
    refine ⟨ret_str ?_, below_step HB2.out hb3⟩
    rw [HC.out, ← HDA.out, ← HDB.out]
    exact L_inj (by simp only [L_append, L_bs, List.append_assoc]; rfl)

set_option maxRecDepth 100000 in
set_option maxHeartbeats 2000000 in
theorem sign_5 (w : World) : Calls Tryz.prog 41 #[.int .i64 5] w fun e w' => e = .returned (.string ⟨#[61]⟩) ∧ Below w.heap.size w w' := by
  go_enter Tryz.func41, Tryz.ntmps41
  go_wp2_with fail
  go_ret
  exact ⟨rfl, below_alloc w _⟩

set_option maxRecDepth 100000 in
set_option maxHeartbeats 2000000 in
theorem sign_6 (w : World) : Calls Tryz.prog 41 #[.int .i64 6] w fun e w' => e = .returned (.string ⟨#[126, 61]⟩) ∧ Below w.heap.size w w' := by
  go_enter Tryz.func41, Tryz.ntmps41
  go_wp2_with fail
  go_ret
  exact ⟨rfl, below_alloc w _⟩

set_option maxRecDepth 100000 in
set_option maxHeartbeats 2000000 in
theorem sign_7 (w : World) : Calls Tryz.prog 41 #[.int .i64 7] w fun e w' => e = .returned (.string ⟨#[124, 61]⟩) ∧ Below w.heap.size w w' := by
  go_enter Tryz.func41, Tryz.ntmps41
  go_wp2_with fail
  go_ret
  exact ⟨rfl, below_alloc w _⟩

set_option maxRecDepth 100000 in
set_option maxHeartbeats 2000000 in
theorem sign_8 (w : World) : Calls Tryz.prog 41 #[.int .i64 8] w fun e w' => e = .returned (.string ⟨#[94, 61]⟩) ∧ Below w.heap.size w w' := by
  go_enter Tryz.func41, Tryz.ntmps41
  go_wp2_with fail
  go_ret
  exact ⟨rfl, below_alloc w _⟩

set_option maxRecDepth 100000 in
set_option maxHeartbeats 2000000 in
theorem sign_9 (w : World) : Calls Tryz.prog 41 #[.int .i64 9] w fun e w' => e = .returned (.string ⟨#[36, 61]⟩) ∧ Below w.heap.size w w' := by
  go_enter Tryz.func41, Tryz.ntmps41
  go_wp2_with fail
  go_ret
  exact ⟨rfl, below_alloc w _⟩

set_option maxRecDepth 100000 in
set_option maxHeartbeats 2000000 in
theorem sign_10 (w : World) : Calls Tryz.prog 41 #[.int .i64 10] w fun e w' => e = .returned (.string ⟨#[42, 61]⟩) ∧ Below w.heap.size w w' := by
  go_enter Tryz.func41, Tryz.ntmps41
  go_wp2_with fail
  go_ret
  exact ⟨rfl, below_alloc w _⟩

theorem sign_any (k : Int) (h1 : 5 ≤ k) (h2 : k ≤ 10) (w : World) : Calls Tryz.prog 41 #[.int .i64 k] w fun e w' => e = .returned (.string (bs (opL k))) ∧ Below w.heap.size w w' := by
  obtain rfl | rfl | rfl | rfl | rfl | rfl : k = 5 ∨ k = 6 ∨ k = 7 ∨ k = 8 ∨ k = 9 ∨ k = 10 := by omega
  · exact sign_5 w
  · exact sign_6 w
  · exact sign_7 w
  · exact sign_8 w
  · exact sign_9 w
  · exact sign_10 w

end Go.Proofs.YteaapgijeehhfaaGreatDoor

namespace Go.Proofs.YteaapgijeehhfaaGreatDoor
open Go.RowKit

set_option maxRecDepth 100000 in
set_option maxHeartbeats 4000000 in
theorem write_0 (wg : Group → List UInt8) (w : World) (name value : ByteArray) (fold : Bool) (a b : Int) (last ofT : Bool) (subs : Group) (sa : Option Addr) (sc : Nat)  :
    Calls Tryz.prog 28 #[.agg #[.int .i64 0, .string name, .string value, .bool fold, .int .i64 a, .int .i64 b, .bool last, .bool ofT, .slice sa subs.length sc]] w fun e w' => e = .returned (.string (bs (wSm wg (Simple.mk 0 name value fold a b last ofT subs)))) ∧ Below w.heap.size w w' := by
  have hw := Lib.hid (show bs (wSm wg (Simple.mk 0 name value fold a b last ofT subs)) = bs (L name) from rfl)
  rw [hw.out]
  obtain ⟨R, hR⟩ : ∃ R, bs (L name) = R := ⟨_, rfl⟩
  rw [hR]
  have HR := Lib.hid hR
  clear hR
  go_enter Tryz.func28, Tryz.ntmps28
  go_wp2_with (fail)
  go_ret
  refine ⟨ret_str ?_, below_alloc w _⟩
  rw [← HR.out]
  exact (bs_L name).symm

set_option maxRecDepth 100000 in
set_option maxHeartbeats 4000000 in
theorem write_1 (wg : Group → List UInt8) (w : World) (name value : ByteArray) (fold : Bool) (a b : Int) (last ofT : Bool) (subs : Group) (sa : Option Addr) (sc : Nat)  :
    Calls Tryz.prog 28 #[.agg #[.int .i64 1, .string name, .string value, .bool fold, .int .i64 a, .int .i64 b, .bool last, .bool ofT, .slice sa subs.length sc]] w fun e w' => e = .returned (.string (bs (wSm wg (Simple.mk 1 name value fold a b last ofT subs)))) ∧ Below w.heap.size w w' := by
  have hw := Lib.hid (show bs (wSm wg (Simple.mk 1 name value fold a b last ofT subs)) = bs ([42]) from rfl)
  rw [hw.out]
  obtain ⟨R, hR⟩ : ∃ R, bs ([42]) = R := ⟨_, rfl⟩
  rw [hR]
  have HR := Lib.hid hR
  clear hR
  go_enter Tryz.func28, Tryz.ntmps28
  go_wp2_with (fail)
  go_ret
  refine ⟨ret_str ?_, below_alloc w _⟩
  rw [← HR.out]
  rfl

set_option maxRecDepth 100000 in
set_option maxHeartbeats 4000000 in
theorem write_2 (wg : Group → List UInt8) (w : World) (name value : ByteArray) (fold : Bool) (a b : Int) (last ofT : Bool) (subs : Group) (sa : Option Addr) (sc : Nat) (hn : name.size ≤ 12) :
    Calls Tryz.prog 28 #[.agg #[.int .i64 2, .string name, .string value, .bool fold, .int .i64 a, .int .i64 b, .bool last, .bool ofT, .slice sa subs.length sc]] w fun e w' => e = .returned (.string (bs (wSm wg (Simple.mk 2 name value fold a b last ofT subs)))) ∧ Below w.heap.size w w' := by
  have hw := Lib.hid (show bs (wSm wg (Simple.mk 2 name value fold a b last ofT subs)) = bs (35 :: L name) from rfl)
  rw [hw.out]
  obtain ⟨R, hR⟩ : ∃ R, bs (35 :: L name) = R := ⟨_, rfl⟩
  rw [hR]
  have HR := Lib.hid hR
  clear hR
  go_enter Tryz.func28, Tryz.ntmps28
  go_wp2_with (fail)
  go_ret
  refine ⟨ret_str ?_, below_alloc w _⟩
  rw [← HR.out]
  exact L_inj (by simp only [L_append, L_bs, List.append_assoc]; rfl)

set_option maxRecDepth 100000 in
set_option maxHeartbeats 4000000 in
theorem write_3 (wg : Group → List UInt8) (w : World) (name value : ByteArray) (fold : Bool) (a b : Int) (last ofT : Bool) (subs : Group) (sa : Option Addr) (sc : Nat) (hn : name.size ≤ 12) :
    Calls Tryz.prog 28 #[.agg #[.int .i64 3, .string name, .string value, .bool fold, .int .i64 a, .int .i64 b, .bool last, .bool ofT, .slice sa subs.length sc]] w fun e w' => e = .returned (.string (bs (wSm wg (Simple.mk 3 name value fold a b last ofT subs)))) ∧ Below w.heap.size w w' := by
  have hw := Lib.hid (show bs (wSm wg (Simple.mk 3 name value fold a b last ofT subs)) = bs (46 :: L name) from rfl)
  rw [hw.out]
  obtain ⟨R, hR⟩ : ∃ R, bs (46 :: L name) = R := ⟨_, rfl⟩
  rw [hR]
  have HR := Lib.hid hR
  clear hR
  go_enter Tryz.func28, Tryz.ntmps28
  go_wp2_with (fail)
  go_ret
  refine ⟨ret_str ?_, below_alloc w _⟩
  rw [← HR.out]
  exact L_inj (by simp only [L_append, L_bs, List.append_assoc]; rfl)

set_option maxRecDepth 100000 in
set_option maxHeartbeats 4000000 in
theorem write_4 (wg : Group → List UInt8) (w : World) (name value : ByteArray) (fold : Bool) (a b : Int) (last ofT : Bool) (subs : Group) (sa : Option Addr) (sc : Nat) (hn : name.size ≤ 12) :
    Calls Tryz.prog 28 #[.agg #[.int .i64 4, .string name, .string value, .bool fold, .int .i64 a, .int .i64 b, .bool last, .bool ofT, .slice sa subs.length sc]] w fun e w' => e = .returned (.string (bs (wSm wg (Simple.mk 4 name value fold a b last ofT subs)))) ∧ Below w.heap.size w w' := by
  have hw := Lib.hid (show bs (wSm wg (Simple.mk 4 name value fold a b last ofT subs)) = bs (91 :: (L name ++ [93])) from rfl)
  rw [hw.out]
  obtain ⟨R, hR⟩ : ∃ R, bs (91 :: (L name ++ [93])) = R := ⟨_, rfl⟩
  rw [hR]
  have HR := Lib.hid hR
  clear hR
  go_enter Tryz.func28, Tryz.ntmps28
  go_wp2_with (fail)
  go_ret
  refine ⟨ret_str ?_, below_alloc w _⟩
  rw [← HR.out]
  exact L_inj (by simp only [L_append, L_bs, List.append_assoc]; rfl)

set_option maxRecDepth 100000 in
set_option maxHeartbeats 4000000 in
theorem write_16 (wg : Group → List UInt8) (w : World) (name value : ByteArray) (a b : Int) (last ofT : Bool) (subs : Group) (sa : Option Addr) (sc : Nat) (hn : name.size ≤ 12) (hv : value.size ≤ 40) :
    Calls Tryz.prog 28 #[.agg #[.int .i64 16, .string name, .string value, .bool false, .int .i64 a, .int .i64 b, .bool last, .bool ofT, .slice sa subs.length sc]] w fun e w' => e = .returned (.string (bs (wSm wg (Simple.mk 16 name value false a b last ofT subs)))) ∧ Below w.heap.size w w' := by
  have hw := Lib.hid (show bs (wSm wg (Simple.mk 16 name value false a b last ofT subs)) = bs (91 :: (L name ++ (opL 16 ++ (34 :: (L value ++ (34 :: [93])))))) from rfl)
  rw [hw.out]
  obtain ⟨R, hR⟩ : ∃ R, bs (91 :: (L name ++ (opL 16 ++ (34 :: (L value ++ (34 :: [93])))))) = R := ⟨_, rfl⟩
  rw [hR]
  have HR := Lib.hid hR
  clear hR
  go_enter Tryz.func28, Tryz.ntmps28
  go_wp2_with (fail)
  go_ret
  refine ⟨ret_str ?_, below_alloc w _⟩
  rw [← HR.out]
  exact L_inj (by simp only [L_append, L_bs, List.append_assoc]; rfl)

set_option maxRecDepth 100000 in
set_option maxHeartbeats 4000000 in
theorem write_12 (wg : Group → List UInt8) (w : World) (name value : ByteArray) (fold : Bool) (a b : Int) (last ofT : Bool) (subs : Group) (sa : Option Addr) (sc : Nat)  :
    Calls Tryz.prog 28 #[.agg #[.int .i64 12, .string name, .string value, .bool fold, .int .i64 a, .int .i64 b, .bool last, .bool ofT, .slice sa subs.length sc]] w fun e w' => e = .returned (.string (bs (wSm wg (Simple.mk 12 name value fold a b last ofT subs)))) ∧ Below w.heap.size w w' := by
  have hw := Lib.hid (show bs (wSm wg (Simple.mk 12 name value fold a b last ofT subs)) = bs ([58, 101, 109, 112, 116, 121]) from rfl)
  rw [hw.out]
  obtain ⟨R, hR⟩ : ∃ R, bs ([58, 101, 109, 112, 116, 121]) = R := ⟨_, rfl⟩
  rw [hR]
  have HR := Lib.hid hR
  clear hR
  go_enter Tryz.func28, Tryz.ntmps28
  go_wp2_with (fail)
  go_ret
  refine ⟨ret_str ?_, below_alloc w _⟩
  rw [← HR.out]
  rfl

set_option maxRecDepth 100000 in
set_option maxHeartbeats 4000000 in
theorem write_13 (wg : Group → List UInt8) (w : World) (name value : ByteArray) (fold : Bool) (a b : Int) (last ofT : Bool) (subs : Group) (sa : Option Addr) (sc : Nat)  :
    Calls Tryz.prog 28 #[.agg #[.int .i64 13, .string name, .string value, .bool fold, .int .i64 a, .int .i64 b, .bool last, .bool ofT, .slice sa subs.length sc]] w fun e w' => e = .returned (.string (bs (wSm wg (Simple.mk 13 name value fold a b last ofT subs)))) ∧ Below w.heap.size w w' := by
  have hw := Lib.hid (show bs (wSm wg (Simple.mk 13 name value fold a b last ofT subs)) = bs ([58, 114, 111, 111, 116]) from rfl)
  rw [hw.out]
  obtain ⟨R, hR⟩ : ∃ R, bs ([58, 114, 111, 111, 116]) = R := ⟨_, rfl⟩
  rw [hR]
  have HR := Lib.hid hR
  clear hR
  go_enter Tryz.func28, Tryz.ntmps28
  go_wp2_with (fail)
  go_ret
  refine ⟨ret_str ?_, below_alloc w _⟩
  rw [← HR.out]
  rfl

set_option maxRecDepth 100000 in
set_option maxHeartbeats 4000000 in
theorem write_14 (wg : Group → List UInt8) (w : World) (name value : ByteArray) (fold : Bool) (a b : Int) (last ofT : Bool) (subs : Group) (sa : Option Addr) (sc : Nat) (hs : (wg subs).length ≤ 1000000000) (hW : ∀ w', Below w.heap.size w w' → Calls Tryz.prog 13 #[.slice sa subs.length sc] w' fun e w'' => e = .returned (.string (bs (wg subs))) ∧ Below w'.heap.size w' w'') :
    Calls Tryz.prog 28 #[.agg #[.int .i64 14, .string name, .string value, .bool fold, .int .i64 a, .int .i64 b, .bool last, .bool ofT, .slice sa subs.length sc]] w fun e w' => e = .returned (.string (bs (wSm wg (Simple.mk 14 name value fold a b last ofT subs)))) ∧ Below w.heap.size w w' := by
  have HW := Lib.hid (hW _ (below_alloc w (.cells #[.int .i64 14, .string name, .string value, .bool fold, .int .i64 a, .int .i64 b, .bool last, .bool ofT, .slice sa subs.length sc] 69)))
  obtain ⟨t, ht⟩ : ∃ t, bs (wg subs) = t := ⟨_, rfl⟩
  have hts : t.size ≤ 1000000000 := by rw [← ht, bs_size]; exact hs
  rw [ht] at HW
  have HT := Lib.hid ht
  clear hW ht hs
  have hw := Lib.hid (show bs (wSm wg (Simple.mk 14 name value fold a b last ofT subs)) = bs ([58, 110, 111, 116, 40] ++ (wg subs ++ [41])) from rfl)
  rw [hw.out]
  obtain ⟨R, hR⟩ : ∃ R, bs ([58, 110, 111, 116, 40] ++ (wg subs ++ [41])) = R := ⟨_, rfl⟩
  rw [hR]
  have HR := Lib.hid hR
  clear hR
  go_enter Tryz.func28, Tryz.ntmps28
  go_wp2_with (go_at_call 13; refine HW.out.mono ?_; rintro e w2 ⟨rfl, hb2⟩)
  go_ret
  refine ⟨ret_str ?_, below_step (below_alloc w _) hb2⟩
  rw [← HR.out]
  rw [← HT.out]; exact L_inj (by simp only [L_append, L_bs, List.append_assoc]; rfl)

set_option maxRecDepth 100000 in
set_option maxHeartbeats 4000000 in
theorem write_15 (wg : Group → List UInt8) (w : World) (name value : ByteArray) (fold : Bool) (a b : Int) (last ofT : Bool) (subs : Group) (sa : Option Addr) (sc : Nat) (hs : (wg subs).length ≤ 1000000000) (hW : ∀ w', Below w.heap.size w w' → Calls Tryz.prog 13 #[.slice sa subs.length sc] w' fun e w'' => e = .returned (.string (bs (wg subs))) ∧ Below w'.heap.size w' w'') :
    Calls Tryz.prog 28 #[.agg #[.int .i64 15, .string name, .string value, .bool fold, .int .i64 a, .int .i64 b, .bool last, .bool ofT, .slice sa subs.length sc]] w fun e w' => e = .returned (.string (bs (wSm wg (Simple.mk 15 name value fold a b last ofT subs)))) ∧ Below w.heap.size w w' := by
  have HW := Lib.hid (hW _ (below_alloc w (.cells #[.int .i64 15, .string name, .string value, .bool fold, .int .i64 a, .int .i64 b, .bool last, .bool ofT, .slice sa subs.length sc] 69)))
  obtain ⟨t, ht⟩ : ∃ t, bs (wg subs) = t := ⟨_, rfl⟩
  have hts : t.size ≤ 1000000000 := by rw [← ht, bs_size]; exact hs
  rw [ht] at HW
  have HT := Lib.hid ht
  clear hW ht hs
  have hw := Lib.hid (show bs (wSm wg (Simple.mk 15 name value fold a b last ofT subs)) = bs ([58, 104, 97, 115, 40] ++ (wg subs ++ [41])) from rfl)
  rw [hw.out]
  obtain ⟨R, hR⟩ : ∃ R, bs ([58, 104, 97, 115, 40] ++ (wg subs ++ [41])) = R := ⟨_, rfl⟩
  rw [hR]
  have HR := Lib.hid hR
  clear hR
  go_enter Tryz.func28, Tryz.ntmps28
  go_wp2_with (go_at_call 13; refine HW.out.mono ?_; rintro e w2 ⟨rfl, hb2⟩)
  go_ret
  refine ⟨ret_str ?_, below_step (below_alloc w _) hb2⟩
  rw [← HR.out]
  rw [← HT.out]; exact L_inj (by simp only [L_append, L_bs, List.append_assoc]; rfl)

set_option maxRecDepth 100000 in
set_option maxHeartbeats 4000000 in
theorem write_nth1_false_false (wg : Group → List UInt8) (w : World) (name value : ByteArray) (fold : Bool)   (subs : Group) (sa : Option Addr) (sc : Nat)  :
    Calls Tryz.prog 28 #[.agg #[.int .i64 11, .string name, .string value, .bool fold, .int .i64 0, .int .i64 1, .bool false, .bool false, .slice sa subs.length sc]] w fun e w' => e = .returned (.string (bs (wSm wg (Simple.mk 11 name value fold 0 1 false false subs)))) ∧ Below w.heap.size w w' := by
  have hw := Lib.hid (show bs (wSm wg (Simple.mk 11 name value fold 0 1 false false subs)) = bs (nthW 0 1 false false) from rfl)
  rw [hw.out]
  obtain ⟨R, hR⟩ : ∃ R, bs (nthW 0 1 false false) = R := ⟨_, rfl⟩
  rw [hR]
  have HR := Lib.hid hR
  clear hR
  go_enter Tryz.func28, Tryz.ntmps28
  go_wp2_with (fail)
  go_ret
  refine ⟨ret_str ?_, below_alloc w _⟩
  rw [← HR.out]
  rfl

set_option maxRecDepth 100000 in
set_option maxHeartbeats 4000000 in
theorem write_nth_false_false (wg : Group → List UInt8) (w : World) (name value : ByteArray) (fold : Bool) (a b : Int)  (subs : Group) (sa : Option Addr) (sc : Nat) (ha1 : -9 ≤ a) (ha2 : a ≤ 9) (hb1 : -9 ≤ b) (hb2 : b ≤ 9) (hne : ¬ (a = 0 ∧ b = 1)) :
    Calls Tryz.prog 28 #[.agg #[.int .i64 11, .string name, .string value, .bool fold, .int .i64 a, .int .i64 b, .bool false, .bool false, .slice sa subs.length sc]] w fun e w' => e = .returned (.string (bs (wSm wg (Simple.mk 11 name value fold a b false false subs)))) ∧ Below w.heap.size w w' := by
  have hw := Lib.hid (show bs (wSm wg (Simple.mk 11 name value fold a b false false subs)) = bs (nthW a b false false) from rfl)
  rw [hw.out]
  have HEQ := Lib.hid (show nthW a b false false = 58 :: ([110, 116, 104, 45] ++ [] ++ [99, 104, 105, 108, 100] ++ (40 :: (countL a b ++ [41]))) from by unfold nthW; rw [if_neg hne]; rfl)
  have HC := Lib.hid (fun w => count_any a b ha1 ha2 hb1 hb2 w)
  obtain ⟨t, ht⟩ : ∃ t, bs (countL a b) = t := ⟨_, rfl⟩
  have hts : t.size ≤ 6 := by rw [← ht, bs_size]; exact countL_len a b
  rw [ht] at HC
  have HT := Lib.hid ht
  have hne2 : (a == 0) = false ∨ ((a == 0) = true ∧ (b == 1) = false) := by
    by_cases h : a = 0
    · exact .inr ⟨by simpa using h, by have : ¬ b = 1 := fun e => hne ⟨h, e⟩; simpa using this⟩
    · exact .inl (by simpa using h)
  clear ht
  obtain ⟨R, hR⟩ : ∃ R, bs (nthW a b false false) = R := ⟨_, rfl⟩
  rw [hR]
  have HR := Lib.hid hR
  clear hR
  rcases hne2 with h | ⟨h, h1⟩
  · go_enter Tryz.func28, Tryz.ntmps28
    go_wp2_with (go_at_call 40; refine (HC.out _).mono ?_; rintro e w2 ⟨rfl, hb2⟩)
    go_ret
    refine ⟨ret_str ?_, below_step (below_alloc w _) hb2⟩
    rw [← HR.out, ← HT.out, HEQ.out]
    exact L_inj (by simp only [L_append, L_bs, List.append_assoc]; rfl)
  · go_enter Tryz.func28, Tryz.ntmps28
    go_wp2_with (go_at_call 40; refine (HC.out _).mono ?_; rintro e w2 ⟨rfl, hb2⟩)
    go_ret
    refine ⟨ret_str ?_, below_step (below_alloc w _) hb2⟩
    rw [← HR.out, ← HT.out, HEQ.out]
    exact L_inj (by simp only [L_append, L_bs, List.append_assoc]; rfl)

set_option maxRecDepth 100000 in
set_option maxHeartbeats 4000000 in
theorem write_nth1_false_true (wg : Group → List UInt8) (w : World) (name value : ByteArray) (fold : Bool)   (subs : Group) (sa : Option Addr) (sc : Nat)  :
    Calls Tryz.prog 28 #[.agg #[.int .i64 11, .string name, .string value, .bool fold, .int .i64 0, .int .i64 1, .bool false, .bool true, .slice sa subs.length sc]] w fun e w' => e = .returned (.string (bs (wSm wg (Simple.mk 11 name value fold 0 1 false true subs)))) ∧ Below w.heap.size w w' := by
  have hw := Lib.hid (show bs (wSm wg (Simple.mk 11 name value fold 0 1 false true subs)) = bs (nthW 0 1 false true) from rfl)
  rw [hw.out]
  obtain ⟨R, hR⟩ : ∃ R, bs (nthW 0 1 false true) = R := ⟨_, rfl⟩
  rw [hR]
  have HR := Lib.hid hR
  clear hR
  go_enter Tryz.func28, Tryz.ntmps28
  go_wp2_with (fail)
  go_ret
  refine ⟨ret_str ?_, below_alloc w _⟩
  rw [← HR.out]
  rfl

set_option maxRecDepth 100000 in
set_option maxHeartbeats 4000000 in
theorem write_nth_false_true (wg : Group → List UInt8) (w : World) (name value : ByteArray) (fold : Bool) (a b : Int)  (subs : Group) (sa : Option Addr) (sc : Nat) (ha1 : -9 ≤ a) (ha2 : a ≤ 9) (hb1 : -9 ≤ b) (hb2 : b ≤ 9) (hne : ¬ (a = 0 ∧ b = 1)) :
    Calls Tryz.prog 28 #[.agg #[.int .i64 11, .string name, .string value, .bool fold, .int .i64 a, .int .i64 b, .bool false, .bool true, .slice sa subs.length sc]] w fun e w' => e = .returned (.string (bs (wSm wg (Simple.mk 11 name value fold a b false true subs)))) ∧ Below w.heap.size w w' := by
  have hw := Lib.hid (show bs (wSm wg (Simple.mk 11 name value fold a b false true subs)) = bs (nthW a b false true) from rfl)
  rw [hw.out]
  have HEQ := Lib.hid (show nthW a b false true = 58 :: ([110, 116, 104, 45] ++ [] ++ [111, 102, 45, 116, 121, 112, 101] ++ (40 :: (countL a b ++ [41]))) from by unfold nthW; rw [if_neg hne]; rfl)
  have HC := Lib.hid (fun w => count_any a b ha1 ha2 hb1 hb2 w)
  obtain ⟨t, ht⟩ : ∃ t, bs (countL a b) = t := ⟨_, rfl⟩
  have hts : t.size ≤ 6 := by rw [← ht, bs_size]; exact countL_len a b
  rw [ht] at HC
  have HT := Lib.hid ht
  have hne2 : (a == 0) = false ∨ ((a == 0) = true ∧ (b == 1) = false) := by
    by_cases h : a = 0
    · exact .inr ⟨by simpa using h, by have : ¬ b = 1 := fun e => hne ⟨h, e⟩; simpa using this⟩
    · exact .inl (by simpa using h)
  clear ht
  obtain ⟨R, hR⟩ : ∃ R, bs (nthW a b false true) = R := ⟨_, rfl⟩
  rw [hR]
  have HR := Lib.hid hR
  clear hR
  rcases hne2 with h | ⟨h, h1⟩
  · go_enter Tryz.func28, Tryz.ntmps28
    go_wp2_with (go_at_call 40; refine (HC.out _).mono ?_; rintro e w2 ⟨rfl, hb2⟩)
    go_ret
    refine ⟨ret_str ?_, below_step (below_alloc w _) hb2⟩
    rw [← HR.out, ← HT.out, HEQ.out]
    exact L_inj (by simp only [L_append, L_bs, List.append_assoc]; rfl)
  · go_enter Tryz.func28, Tryz.ntmps28
    go_wp2_with (go_at_call 40; refine (HC.out _).mono ?_; rintro e w2 ⟨rfl, hb2⟩)
    go_ret
    refine ⟨ret_str ?_, below_step (below_alloc w _) hb2⟩
    rw [← HR.out, ← HT.out, HEQ.out]
    exact L_inj (by simp only [L_append, L_bs, List.append_assoc]; rfl)

set_option maxRecDepth 100000 in
set_option maxHeartbeats 4000000 in
theorem write_nth1_true_false (wg : Group → List UInt8) (w : World) (name value : ByteArray) (fold : Bool)   (subs : Group) (sa : Option Addr) (sc : Nat)  :
    Calls Tryz.prog 28 #[.agg #[.int .i64 11, .string name, .string value, .bool fold, .int .i64 0, .int .i64 1, .bool true, .bool false, .slice sa subs.length sc]] w fun e w' => e = .returned (.string (bs (wSm wg (Simple.mk 11 name value fold 0 1 true false subs)))) ∧ Below w.heap.size w w' := by
  have hw := Lib.hid (show bs (wSm wg (Simple.mk 11 name value fold 0 1 true false subs)) = bs (nthW 0 1 true false) from rfl)
  rw [hw.out]
  obtain ⟨R, hR⟩ : ∃ R, bs (nthW 0 1 true false) = R := ⟨_, rfl⟩
  rw [hR]
  have HR := Lib.hid hR
  clear hR
  go_enter Tryz.func28, Tryz.ntmps28
  go_wp2_with (fail)
  go_ret
  refine ⟨ret_str ?_, below_alloc w _⟩
  rw [← HR.out]
  rfl

set_option maxRecDepth 100000 in
set_option maxHeartbeats 4000000 in
theorem write_nth_true_false (wg : Group → List UInt8) (w : World) (name value : ByteArray) (fold : Bool) (a b : Int)  (subs : Group) (sa : Option Addr) (sc : Nat) (ha1 : -9 ≤ a) (ha2 : a ≤ 9) (hb1 : -9 ≤ b) (hb2 : b ≤ 9) (hne : ¬ (a = 0 ∧ b = 1)) :
    Calls Tryz.prog 28 #[.agg #[.int .i64 11, .string name, .string value, .bool fold, .int .i64 a, .int .i64 b, .bool true, .bool false, .slice sa subs.length sc]] w fun e w' => e = .returned (.string (bs (wSm wg (Simple.mk 11 name value fold a b true false subs)))) ∧ Below w.heap.size w w' := by
  have hw := Lib.hid (show bs (wSm wg (Simple.mk 11 name value fold a b true false subs)) = bs (nthW a b true false) from rfl)
  rw [hw.out]
  have HEQ := Lib.hid (show nthW a b true false = 58 :: ([110, 116, 104, 45] ++ [108, 97, 115, 116, 45] ++ [99, 104, 105, 108, 100] ++ (40 :: (countL a b ++ [41]))) from by unfold nthW; rw [if_neg hne]; rfl)
  have HC := Lib.hid (fun w => count_any a b ha1 ha2 hb1 hb2 w)
  obtain ⟨t, ht⟩ : ∃ t, bs (countL a b) = t := ⟨_, rfl⟩
  have hts : t.size ≤ 6 := by rw [← ht, bs_size]; exact countL_len a b
  rw [ht] at HC
  have HT := Lib.hid ht
  have hne2 : (a == 0) = false ∨ ((a == 0) = true ∧ (b == 1) = false) := by
    by_cases h : a = 0
    · exact .inr ⟨by simpa using h, by have : ¬ b = 1 := fun e => hne ⟨h, e⟩; simpa using this⟩
    · exact .inl (by simpa using h)
  clear ht
  obtain ⟨R, hR⟩ : ∃ R, bs (nthW a b true false) = R := ⟨_, rfl⟩
  rw [hR]
  have HR := Lib.hid hR
  clear hR
  rcases hne2 with h | ⟨h, h1⟩
  · go_enter Tryz.func28, Tryz.ntmps28
    go_wp2_with (go_at_call 40; refine (HC.out _).mono ?_; rintro e w2 ⟨rfl, hb2⟩)
    go_ret
    refine ⟨ret_str ?_, below_step (below_alloc w _) hb2⟩
    rw [← HR.out, ← HT.out, HEQ.out]
    exact L_inj (by simp only [L_append, L_bs, List.append_assoc]; rfl)
  · go_enter Tryz.func28, Tryz.ntmps28
    go_wp2_with (go_at_call 40; refine (HC.out _).mono ?_; rintro e w2 ⟨rfl, hb2⟩)
    go_ret
    refine ⟨ret_str ?_, below_step (below_alloc w _) hb2⟩
    rw [← HR.out, ← HT.out, HEQ.out]
    exact L_inj (by simp only [L_append, L_bs, List.append_assoc]; rfl)

set_option maxRecDepth 100000 in
set_option maxHeartbeats 4000000 in
theorem write_nth1_true_true (wg : Group → List UInt8) (w : World) (name value : ByteArray) (fold : Bool)   (subs : Group) (sa : Option Addr) (sc : Nat)  :
    Calls Tryz.prog 28 #[.agg #[.int .i64 11, .string name, .string value, .bool fold, .int .i64 0, .int .i64 1, .bool true, .bool true, .slice sa subs.length sc]] w fun e w' => e = .returned (.string (bs (wSm wg (Simple.mk 11 name value fold 0 1 true true subs)))) ∧ Below w.heap.size w w' := by
  have hw := Lib.hid (show bs (wSm wg (Simple.mk 11 name value fold 0 1 true true subs)) = bs (nthW 0 1 true true) from rfl)
  rw [hw.out]
  obtain ⟨R, hR⟩ : ∃ R, bs (nthW 0 1 true true) = R := ⟨_, rfl⟩
  rw [hR]
  have HR := Lib.hid hR
  clear hR
  go_enter Tryz.func28, Tryz.ntmps28
  go_wp2_with (fail)
  go_ret
  refine ⟨ret_str ?_, below_alloc w _⟩
  rw [← HR.out]
  rfl

set_option maxRecDepth 100000 in
set_option maxHeartbeats 4000000 in
theorem write_nth_true_true (wg : Group → List UInt8) (w : World) (name value : ByteArray) (fold : Bool) (a b : Int)  (subs : Group) (sa : Option Addr) (sc : Nat) (ha1 : -9 ≤ a) (ha2 : a ≤ 9) (hb1 : -9 ≤ b) (hb2 : b ≤ 9) (hne : ¬ (a = 0 ∧ b = 1)) :
    Calls Tryz.prog 28 #[.agg #[.int .i64 11, .string name, .string value, .bool fold, .int .i64 a, .int .i64 b, .bool true, .bool true, .slice sa subs.length sc]] w fun e w' => e = .returned (.string (bs (wSm wg (Simple.mk 11 name value fold a b true true subs)))) ∧ Below w.heap.size w w' := by
  have hw := Lib.hid (show bs (wSm wg (Simple.mk 11 name value fold a b true true subs)) = bs (nthW a b true true) from rfl)
  rw [hw.out]
  have HEQ := Lib.hid (show nthW a b true true = 58 :: ([110, 116, 104, 45] ++ [108, 97, 115, 116, 45] ++ [111, 102, 45, 116, 121, 112, 101] ++ (40 :: (countL a b ++ [41]))) from by unfold nthW; rw [if_neg hne]; rfl)
  have HC := Lib.hid (fun w => count_any a b ha1 ha2 hb1 hb2 w)
  obtain ⟨t, ht⟩ : ∃ t, bs (countL a b) = t := ⟨_, rfl⟩
  have hts : t.size ≤ 6 := by rw [← ht, bs_size]; exact countL_len a b
  rw [ht] at HC
  have HT := Lib.hid ht
  have hne2 : (a == 0) = false ∨ ((a == 0) = true ∧ (b == 1) = false) := by
    by_cases h : a = 0
    · exact .inr ⟨by simpa using h, by have : ¬ b = 1 := fun e => hne ⟨h, e⟩; simpa using this⟩
    · exact .inl (by simpa using h)
  clear ht
  obtain ⟨R, hR⟩ : ∃ R, bs (nthW a b true true) = R := ⟨_, rfl⟩
  rw [hR]
  have HR := Lib.hid hR
  clear hR
  rcases hne2 with h | ⟨h, h1⟩
  · go_enter Tryz.func28, Tryz.ntmps28
    go_wp2_with (go_at_call 40; refine (HC.out _).mono ?_; rintro e w2 ⟨rfl, hb2⟩)
    go_ret
    refine ⟨ret_str ?_, below_step (below_alloc w _) hb2⟩
    rw [← HR.out, ← HT.out, HEQ.out]
    exact L_inj (by simp only [L_append, L_bs, List.append_assoc]; rfl)
  · go_enter Tryz.func28, Tryz.ntmps28
    go_wp2_with (go_at_call 40; refine (HC.out _).mono ?_; rintro e w2 ⟨rfl, hb2⟩)
    go_ret
    refine ⟨ret_str ?_, below_step (below_alloc w _) hb2⟩
    rw [← HR.out, ← HT.out, HEQ.out]
    exact L_inj (by simp only [L_append, L_bs, List.append_assoc]; rfl)

theorem write_11 (wg : Group → List UInt8) (w : World) (name value : ByteArray) (fold : Bool) (a b : Int) (last ofT : Bool) (subs : Group) (sa : Option Addr) (sc : Nat) (h : -9 ≤ a ∧ a ≤ 9 ∧ -9 ≤ b ∧ b ≤ 9) :
    Calls Tryz.prog 28 #[.agg #[.int .i64 11, .string name, .string value, .bool fold, .int .i64 a, .int .i64 b, .bool last, .bool ofT, .slice sa subs.length sc]] w fun e w' => e = .returned (.string (bs (wSm wg (Simple.mk 11 name value fold a b last ofT subs)))) ∧ Below w.heap.size w w' := by
  obtain ⟨h1, h2, h3, h4⟩ := h
  by_cases hne : a = 0 ∧ b = 1
  · obtain ⟨rfl, rfl⟩ := hne
    cases last <;> cases ofT
    · exact write_nth1_false_false wg w name value fold subs sa sc
    · exact write_nth1_false_true wg w name value fold subs sa sc
    · exact write_nth1_true_false wg w name value fold subs sa sc
    · exact write_nth1_true_true wg w name value fold subs sa sc
  · cases last <;> cases ofT
    · exact write_nth_false_false wg w name value fold a b subs sa sc h1 h2 h3 h4 hne
    · exact write_nth_false_true wg w name value fold a b subs sa sc h1 h2 h3 h4 hne
    · exact write_nth_true_false wg w name value fold a b subs sa sc h1 h2 h3 h4 hne
    · exact write_nth_true_true wg w name value fold a b subs sa sc h1 h2 h3 h4 hne

end Go.Proofs.YteaapgijeehhfaaGreatDoor
