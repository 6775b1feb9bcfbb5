/- spec.simple: of which simple selectors something is stated; printed by gensimple.py. -/
import Derived.Test.YteaapgijeehhfaaGreatDoorZ33
import Derived.Test.YteaapgijeehhfaaGreatDoorZ19
import Derived.Test.YteaapgijeehhfaaGreatDoorZ13
set_option linter.unusedSimpArgs false
set_option linter.unusedVariables false
namespace Go.Proofs.YteaapgijeehhfaaGreatDoor
open Go.RowKit


set_option maxRecDepth 100000 in
set_option maxHeartbeats 4000000 in
theorem simple_5 {og : Group → Prop} (dp : Int) (w : World) (name value : ByteArray) (fold : Bool) (a b : Int) (last ofT : Bool) (subs : Group) (sa : Option Addr) (sc : Nat) (hn : name.size ≤ 140737488351232) (hv : value.size ≤ 140737488351232) (hdp : 0 ≤ dp ∧ dp ≤ 1000) (hG : 1 < dp → ∀ w', Below w.heap.size w w' → Calls Tryz.prog 24 #[.slice sa subs.length sc, .int .i64 (dp - 1)] w' (OkPost (og subs) w')) :
    Calls Tryz.prog 35 #[.agg #[.int .i64 5, .string name, .string value, .bool fold, .int .i64 a, .int .i64 b, .bool last, .bool ofT, .slice sa subs.length sc], .int .i64 dp] w (OkPost (okSm og (Simple.mk 5 name value fold a b last ofT subs)) w) := by
  clear hG
  cases fold
  · cases last
    · cases ofT
      · have hname := fun w => name_any name w hn
        obtain ⟨n, hnm⟩ : ∃ n, nameL (L name) = n := ⟨_, rfl⟩
        rw [hnm] at hname
        have HNM := Lib.hid hnm
        have HN := Lib.hid hname
        clear hnm hname
        cases n
        · go_enter Tryz.func35, Tryz.ntmps35
          go_wp2_with (go_at_call 36; refine (HN.out _).mono ?_; rintro e w2 ⟨rfl, rfl⟩)
          go_ret
          exact OkPost.no (below_alloc w _)
        · have hval := fun w => value_any value w hv
          have HVL := Lib.hid hval
          clear hval
          go_enter Tryz.func35, Tryz.ntmps35
          go_wp2_with (first | (go_at_call 36; refine (HN.out _).mono ?_; rintro e w2 ⟨rfl, rfl⟩) | (go_at_call 50; refine (HVL.out _).mono ?_; rintro e w3 ⟨r, rfl, hr, hb3⟩; have HR := Lib.hid hr; have HB3 := Lib.hid (below_step (below_alloc w _) hb3); clear hr hb3))
          go_ret
          exact OkPost.is (fun h => okSm_mk ⟨by omega, by omega⟩ (fun _ _ _ _ _ _ => HNM.out) (fun _ => HR.out h) (fun _ => ⟨by omega, by omega⟩) (fun h1 => by omega) (fun h1 => by omega)) HB3.out
      · go_enter Tryz.func35, Tryz.ntmps35
        go_wp2_with fail
        go_ret
        exact OkPost.no (below_alloc w _)
    · go_enter Tryz.func35, Tryz.ntmps35
      go_wp2_with fail
      go_ret
      exact OkPost.no (below_alloc w _)
  · cases last
    · cases ofT
      · have hname := fun w => name_any name w hn
        obtain ⟨n, hnm⟩ : ∃ n, nameL (L name) = n := ⟨_, rfl⟩
        rw [hnm] at hname
        have HNM := Lib.hid hnm
        have HN := Lib.hid hname
        clear hnm hname
        cases n
        · go_enter Tryz.func35, Tryz.ntmps35
          go_wp2_with (go_at_call 36; refine (HN.out _).mono ?_; rintro e w2 ⟨rfl, rfl⟩)
          go_ret
          exact OkPost.no (below_alloc w _)
        · have hval := fun w => value_any value w hv
          have HVL := Lib.hid hval
          clear hval
          go_enter Tryz.func35, Tryz.ntmps35
          go_wp2_with (first | (go_at_call 36; refine (HN.out _).mono ?_; rintro e w2 ⟨rfl, rfl⟩) | (go_at_call 50; refine (HVL.out _).mono ?_; rintro e w3 ⟨r, rfl, hr, hb3⟩; have HR := Lib.hid hr; have HB3 := Lib.hid (below_step (below_alloc w _) hb3); clear hr hb3))
          go_ret
          exact OkPost.is (fun h => okSm_mk ⟨by omega, by omega⟩ (fun _ _ _ _ _ _ => HNM.out) (fun _ => HR.out h) (fun _ => ⟨by omega, by omega⟩) (fun h1 => by omega) (fun h1 => by omega)) HB3.out
      · go_enter Tryz.func35, Tryz.ntmps35
        go_wp2_with fail
        go_ret
        exact OkPost.no (below_alloc w _)
    · go_enter Tryz.func35, Tryz.ntmps35
      go_wp2_with fail
      go_ret
      exact OkPost.no (below_alloc w _)

set_option maxRecDepth 100000 in
set_option maxHeartbeats 4000000 in
theorem simple_6 {og : Group → Prop} (dp : Int) (w : World) (name value : ByteArray) (fold : Bool) (a b : Int) (last ofT : Bool) (subs : Group) (sa : Option Addr) (sc : Nat) (hn : name.size ≤ 140737488351232) (hv : value.size ≤ 140737488351232) (hdp : 0 ≤ dp ∧ dp ≤ 1000) (hG : 1 < dp → ∀ w', Below w.heap.size w w' → Calls Tryz.prog 24 #[.slice sa subs.length sc, .int .i64 (dp - 1)] w' (OkPost (og subs) w')) :
    Calls Tryz.prog 35 #[.agg #[.int .i64 6, .string name, .string value, .bool fold, .int .i64 a, .int .i64 b, .bool last, .bool ofT, .slice sa subs.length sc], .int .i64 dp] w (OkPost (okSm og (Simple.mk 6 name value fold a b last ofT subs)) w) := by
  clear hG
  cases fold
  · cases last
    · cases ofT
      · have hname := fun w => name_any name w hn
        obtain ⟨n, hnm⟩ : ∃ n, nameL (L name) = n := ⟨_, rfl⟩
        rw [hnm] at hname
        have HNM := Lib.hid hnm
        have HN := Lib.hid hname
        clear hnm hname
        cases n
        · go_enter Tryz.func35, Tryz.ntmps35
          go_wp2_with (go_at_call 36; refine (HN.out _).mono ?_; rintro e w2 ⟨rfl, rfl⟩)
          go_ret
          exact OkPost.no (below_alloc w _)
        · have hval := fun w => value_any value w hv
          have HVL := Lib.hid hval
          clear hval
          have s0 : (w.alloc (.cells #[.int .i64 6, .string name, .string value, .bool false, .int .i64 a, .int .i64 b, .bool false, .bool false, .slice sa subs.length sc] 69)).cell? ⟨w.heap.size, 0, none⟩ = some (.int .i64 6) := by rw [cell_of_heap (heap_alloc_new w _)]; rfl
          have s2 : (w.alloc (.cells #[.int .i64 6, .string name, .string value, .bool false, .int .i64 a, .int .i64 b, .bool false, .bool false, .slice sa subs.length sc] 69)).cell? ⟨w.heap.size, 2, none⟩ = some (.string value) := by rw [cell_of_heap (heap_alloc_new w _)]; rfl
          have S0 := Lib.hid s0
          have S2 := Lib.hid s2
          clear s0 s2
          go_enter Tryz.func35, Tryz.ntmps35
          go_wp2_with (first | (go_at_call 36; refine (HN.out _).mono ?_; rintro e w2 ⟨rfl, rfl⟩) | (go_at_call 50; refine (HVL.out _).mono ?_; rintro e w3 ⟨r, rfl, hr, hb3⟩; have HR := Lib.hid hr; have HB3 := Lib.hid (below_step (below_alloc w _) hb3); have s0 := cell_keep hb3 S0.out; have s2 := cell_keep hb3 S2.out; clear hr hb3; cases r) | (go_at_call 51; refine (word_any value _ hv).mono ?_; rintro e w4 ⟨rfl, rfl⟩))
          · go_ret
            exact OkPost.no HB3.out
          · go_ret
            exact OkPost.is (fun _ => okSm_mk ⟨by omega, by omega⟩ (fun _ _ _ _ _ _ => HNM.out) (fun _ => HR.out trivial) (fun _ => ⟨by omega, by omega⟩) (fun h1 => by omega) (fun h1 => by omega)) HB3.out
      · go_enter Tryz.func35, Tryz.ntmps35
        go_wp2_with fail
        go_ret
        exact OkPost.no (below_alloc w _)
    · go_enter Tryz.func35, Tryz.ntmps35
      go_wp2_with fail
      go_ret
      exact OkPost.no (below_alloc w _)
  · cases last
    · cases ofT
      · have hname := fun w => name_any name w hn
        obtain ⟨n, hnm⟩ : ∃ n, nameL (L name) = n := ⟨_, rfl⟩
        rw [hnm] at hname
        have HNM := Lib.hid hnm
        have HN := Lib.hid hname
        clear hnm hname
        cases n
        · go_enter Tryz.func35, Tryz.ntmps35
          go_wp2_with (go_at_call 36; refine (HN.out _).mono ?_; rintro e w2 ⟨rfl, rfl⟩)
          go_ret
          exact OkPost.no (below_alloc w _)
        · have hval := fun w => value_any value w hv
          have HVL := Lib.hid hval
          clear hval
          have s0 : (w.alloc (.cells #[.int .i64 6, .string name, .string value, .bool true, .int .i64 a, .int .i64 b, .bool false, .bool false, .slice sa subs.length sc] 69)).cell? ⟨w.heap.size, 0, none⟩ = some (.int .i64 6) := by rw [cell_of_heap (heap_alloc_new w _)]; rfl
          have s2 : (w.alloc (.cells #[.int .i64 6, .string name, .string value, .bool true, .int .i64 a, .int .i64 b, .bool false, .bool false, .slice sa subs.length sc] 69)).cell? ⟨w.heap.size, 2, none⟩ = some (.string value) := by rw [cell_of_heap (heap_alloc_new w _)]; rfl
          have S0 := Lib.hid s0
          have S2 := Lib.hid s2
          clear s0 s2
          go_enter Tryz.func35, Tryz.ntmps35
          go_wp2_with (first | (go_at_call 36; refine (HN.out _).mono ?_; rintro e w2 ⟨rfl, rfl⟩) | (go_at_call 50; refine (HVL.out _).mono ?_; rintro e w3 ⟨r, rfl, hr, hb3⟩; have HR := Lib.hid hr; have HB3 := Lib.hid (below_step (below_alloc w _) hb3); have s0 := cell_keep hb3 S0.out; have s2 := cell_keep hb3 S2.out; clear hr hb3; cases r) | (go_at_call 51; refine (word_any value _ hv).mono ?_; rintro e w4 ⟨rfl, rfl⟩))
          · go_ret
            exact OkPost.no HB3.out
          · go_ret
            exact OkPost.is (fun _ => okSm_mk ⟨by omega, by omega⟩ (fun _ _ _ _ _ _ => HNM.out) (fun _ => HR.out trivial) (fun _ => ⟨by omega, by omega⟩) (fun h1 => by omega) (fun h1 => by omega)) HB3.out
      · go_enter Tryz.func35, Tryz.ntmps35
        go_wp2_with fail
        go_ret
        exact OkPost.no (below_alloc w _)
    · go_enter Tryz.func35, Tryz.ntmps35
      go_wp2_with fail
      go_ret
      exact OkPost.no (below_alloc w _)

set_option maxRecDepth 100000 in
set_option maxHeartbeats 4000000 in
theorem simple_7 {og : Group → Prop} (dp : Int) (w : World) (name value : ByteArray) (fold : Bool) (a b : Int) (last ofT : Bool) (subs : Group) (sa : Option Addr) (sc : Nat) (hn : name.size ≤ 140737488351232) (hv : value.size ≤ 140737488351232) (hdp : 0 ≤ dp ∧ dp ≤ 1000) (hG : 1 < dp → ∀ w', Below w.heap.size w w' → Calls Tryz.prog 24 #[.slice sa subs.length sc, .int .i64 (dp - 1)] w' (OkPost (og subs) w')) :
    Calls Tryz.prog 35 #[.agg #[.int .i64 7, .string name, .string value, .bool fold, .int .i64 a, .int .i64 b, .bool last, .bool ofT, .slice sa subs.length sc], .int .i64 dp] w (OkPost (okSm og (Simple.mk 7 name value fold a b last ofT subs)) w) := by
  clear hG
  cases fold
  · cases last
    · cases ofT
      · have hname := fun w => name_any name w hn
        obtain ⟨n, hnm⟩ : ∃ n, nameL (L name) = n := ⟨_, rfl⟩
        rw [hnm] at hname
        have HNM := Lib.hid hnm
        have HN := Lib.hid hname
        clear hnm hname
        cases n
        · go_enter Tryz.func35, Tryz.ntmps35
          go_wp2_with (go_at_call 36; refine (HN.out _).mono ?_; rintro e w2 ⟨rfl, rfl⟩)
          go_ret
          exact OkPost.no (below_alloc w _)
        · have hval := fun w => value_any value w hv
          have HVL := Lib.hid hval
          clear hval
          have s0 : (w.alloc (.cells #[.int .i64 7, .string name, .string value, .bool false, .int .i64 a, .int .i64 b, .bool false, .bool false, .slice sa subs.length sc] 69)).cell? ⟨w.heap.size, 0, none⟩ = some (.int .i64 7) := by rw [cell_of_heap (heap_alloc_new w _)]; rfl
          have s2 : (w.alloc (.cells #[.int .i64 7, .string name, .string value, .bool false, .int .i64 a, .int .i64 b, .bool false, .bool false, .slice sa subs.length sc] 69)).cell? ⟨w.heap.size, 2, none⟩ = some (.string value) := by rw [cell_of_heap (heap_alloc_new w _)]; rfl
          have S0 := Lib.hid s0
          have S2 := Lib.hid s2
          clear s0 s2
          go_enter Tryz.func35, Tryz.ntmps35
          go_wp2_with (first | (go_at_call 36; refine (HN.out _).mono ?_; rintro e w2 ⟨rfl, rfl⟩) | (go_at_call 50; refine (HVL.out _).mono ?_; rintro e w3 ⟨r, rfl, hr, hb3⟩; have HR := Lib.hid hr; have HB3 := Lib.hid (below_step (below_alloc w _) hb3); have s0 := cell_keep hb3 S0.out; have s2 := cell_keep hb3 S2.out; clear hr hb3; cases r))
          · go_ret
            exact OkPost.no HB3.out
          · go_ret
            exact OkPost.is (fun _ => okSm_mk ⟨by omega, by omega⟩ (fun _ _ _ _ _ _ => HNM.out) (fun _ => HR.out trivial) (fun _ => ⟨by omega, by omega⟩) (fun h1 => by omega) (fun h1 => by omega)) HB3.out
      · go_enter Tryz.func35, Tryz.ntmps35
        go_wp2_with fail
        go_ret
        exact OkPost.no (below_alloc w _)
    · go_enter Tryz.func35, Tryz.ntmps35
      go_wp2_with fail
      go_ret
      exact OkPost.no (below_alloc w _)
  · cases last
    · cases ofT
      · have hname := fun w => name_any name w hn
        obtain ⟨n, hnm⟩ : ∃ n, nameL (L name) = n := ⟨_, rfl⟩
        rw [hnm] at hname
        have HNM := Lib.hid hnm
        have HN := Lib.hid hname
        clear hnm hname
        cases n
        · go_enter Tryz.func35, Tryz.ntmps35
          go_wp2_with (go_at_call 36; refine (HN.out _).mono ?_; rintro e w2 ⟨rfl, rfl⟩)
          go_ret
          exact OkPost.no (below_alloc w _)
        · have hval := fun w => value_any value w hv
          have HVL := Lib.hid hval
          clear hval
          have s0 : (w.alloc (.cells #[.int .i64 7, .string name, .string value, .bool true, .int .i64 a, .int .i64 b, .bool false, .bool false, .slice sa subs.length sc] 69)).cell? ⟨w.heap.size, 0, none⟩ = some (.int .i64 7) := by rw [cell_of_heap (heap_alloc_new w _)]; rfl
          have s2 : (w.alloc (.cells #[.int .i64 7, .string name, .string value, .bool true, .int .i64 a, .int .i64 b, .bool false, .bool false, .slice sa subs.length sc] 69)).cell? ⟨w.heap.size, 2, none⟩ = some (.string value) := by rw [cell_of_heap (heap_alloc_new w _)]; rfl
          have S0 := Lib.hid s0
          have S2 := Lib.hid s2
          clear s0 s2
          go_enter Tryz.func35, Tryz.ntmps35
          go_wp2_with (first | (go_at_call 36; refine (HN.out _).mono ?_; rintro e w2 ⟨rfl, rfl⟩) | (go_at_call 50; refine (HVL.out _).mono ?_; rintro e w3 ⟨r, rfl, hr, hb3⟩; have HR := Lib.hid hr; have HB3 := Lib.hid (below_step (below_alloc w _) hb3); have s0 := cell_keep hb3 S0.out; have s2 := cell_keep hb3 S2.out; clear hr hb3; cases r))
          · go_ret
            exact OkPost.no HB3.out
          · go_ret
            exact OkPost.is (fun _ => okSm_mk ⟨by omega, by omega⟩ (fun _ _ _ _ _ _ => HNM.out) (fun _ => HR.out trivial) (fun _ => ⟨by omega, by omega⟩) (fun h1 => by omega) (fun h1 => by omega)) HB3.out
      · go_enter Tryz.func35, Tryz.ntmps35
        go_wp2_with fail
        go_ret
        exact OkPost.no (below_alloc w _)
    · go_enter Tryz.func35, Tryz.ntmps35
      go_wp2_with fail
      go_ret
      exact OkPost.no (below_alloc w _)

set_option maxRecDepth 100000 in
set_option maxHeartbeats 4000000 in
theorem simple_8 {og : Group → Prop} (dp : Int) (w : World) (name value : ByteArray) (fold : Bool) (a b : Int) (last ofT : Bool) (subs : Group) (sa : Option Addr) (sc : Nat) (hn : name.size ≤ 140737488351232) (hv : value.size ≤ 140737488351232) (hdp : 0 ≤ dp ∧ dp ≤ 1000) (hG : 1 < dp → ∀ w', Below w.heap.size w w' → Calls Tryz.prog 24 #[.slice sa subs.length sc, .int .i64 (dp - 1)] w' (OkPost (og subs) w')) :
    Calls Tryz.prog 35 #[.agg #[.int .i64 8, .string name, .string value, .bool fold, .int .i64 a, .int .i64 b, .bool last, .bool ofT, .slice sa subs.length sc], .int .i64 dp] w (OkPost (okSm og (Simple.mk 8 name value fold a b last ofT subs)) w) := by
  clear hG
  cases fold
  · cases last
    · cases ofT
      · have hname := fun w => name_any name w hn
        obtain ⟨n, hnm⟩ : ∃ n, nameL (L name) = n := ⟨_, rfl⟩
        rw [hnm] at hname
        have HNM := Lib.hid hnm
        have HN := Lib.hid hname
        clear hnm hname
        cases n
        · go_enter Tryz.func35, Tryz.ntmps35
          go_wp2_with (go_at_call 36; refine (HN.out _).mono ?_; rintro e w2 ⟨rfl, rfl⟩)
          go_ret
          exact OkPost.no (below_alloc w _)
        · have hval := fun w => value_any value w hv
          have HVL := Lib.hid hval
          clear hval
          have s0 : (w.alloc (.cells #[.int .i64 8, .string name, .string value, .bool false, .int .i64 a, .int .i64 b, .bool false, .bool false, .slice sa subs.length sc] 69)).cell? ⟨w.heap.size, 0, none⟩ = some (.int .i64 8) := by rw [cell_of_heap (heap_alloc_new w _)]; rfl
          have s2 : (w.alloc (.cells #[.int .i64 8, .string name, .string value, .bool false, .int .i64 a, .int .i64 b, .bool false, .bool false, .slice sa subs.length sc] 69)).cell? ⟨w.heap.size, 2, none⟩ = some (.string value) := by rw [cell_of_heap (heap_alloc_new w _)]; rfl
          have S0 := Lib.hid s0
          have S2 := Lib.hid s2
          clear s0 s2
          go_enter Tryz.func35, Tryz.ntmps35
          go_wp2_with (first | (go_at_call 36; refine (HN.out _).mono ?_; rintro e w2 ⟨rfl, rfl⟩) | (go_at_call 50; refine (HVL.out _).mono ?_; rintro e w3 ⟨r, rfl, hr, hb3⟩; have HR := Lib.hid hr; have HB3 := Lib.hid (below_step (below_alloc w _) hb3); have s0 := cell_keep hb3 S0.out; have s2 := cell_keep hb3 S2.out; clear hr hb3; cases r))
          · go_ret
            exact OkPost.no HB3.out
          · go_ret
            exact OkPost.is (fun _ => okSm_mk ⟨by omega, by omega⟩ (fun _ _ _ _ _ _ => HNM.out) (fun _ => HR.out trivial) (fun _ => ⟨by omega, by omega⟩) (fun h1 => by omega) (fun h1 => by omega)) HB3.out
      · go_enter Tryz.func35, Tryz.ntmps35
        go_wp2_with fail
        go_ret
        exact OkPost.no (below_alloc w _)
    · go_enter Tryz.func35, Tryz.ntmps35
      go_wp2_with fail
      go_ret
      exact OkPost.no (below_alloc w _)
  · cases last
    · cases ofT
      · have hname := fun w => name_any name w hn
        obtain ⟨n, hnm⟩ : ∃ n, nameL (L name) = n := ⟨_, rfl⟩
        rw [hnm] at hname
        have HNM := Lib.hid hnm
        have HN := Lib.hid hname
        clear hnm hname
        cases n
        · go_enter Tryz.func35, Tryz.ntmps35
          go_wp2_with (go_at_call 36; refine (HN.out _).mono ?_; rintro e w2 ⟨rfl, rfl⟩)
          go_ret
          exact OkPost.no (below_alloc w _)
        · have hval := fun w => value_any value w hv
          have HVL := Lib.hid hval
          clear hval
          have s0 : (w.alloc (.cells #[.int .i64 8, .string name, .string value, .bool true, .int .i64 a, .int .i64 b, .bool false, .bool false, .slice sa subs.length sc] 69)).cell? ⟨w.heap.size, 0, none⟩ = some (.int .i64 8) := by rw [cell_of_heap (heap_alloc_new w _)]; rfl
          have s2 : (w.alloc (.cells #[.int .i64 8, .string name, .string value, .bool true, .int .i64 a, .int .i64 b, .bool false, .bool false, .slice sa subs.length sc] 69)).cell? ⟨w.heap.size, 2, none⟩ = some (.string value) := by rw [cell_of_heap (heap_alloc_new w _)]; rfl
          have S0 := Lib.hid s0
          have S2 := Lib.hid s2
          clear s0 s2
          go_enter Tryz.func35, Tryz.ntmps35
          go_wp2_with (first | (go_at_call 36; refine (HN.out _).mono ?_; rintro e w2 ⟨rfl, rfl⟩) | (go_at_call 50; refine (HVL.out _).mono ?_; rintro e w3 ⟨r, rfl, hr, hb3⟩; have HR := Lib.hid hr; have HB3 := Lib.hid (below_step (below_alloc w _) hb3); have s0 := cell_keep hb3 S0.out; have s2 := cell_keep hb3 S2.out; clear hr hb3; cases r))
          · go_ret
            exact OkPost.no HB3.out
          · go_ret
            exact OkPost.is (fun _ => okSm_mk ⟨by omega, by omega⟩ (fun _ _ _ _ _ _ => HNM.out) (fun _ => HR.out trivial) (fun _ => ⟨by omega, by omega⟩) (fun h1 => by omega) (fun h1 => by omega)) HB3.out
      · go_enter Tryz.func35, Tryz.ntmps35
        go_wp2_with fail
        go_ret
        exact OkPost.no (below_alloc w _)
    · go_enter Tryz.func35, Tryz.ntmps35
      go_wp2_with fail
      go_ret
      exact OkPost.no (below_alloc w _)

set_option maxRecDepth 100000 in
set_option maxHeartbeats 4000000 in
theorem simple_9 {og : Group → Prop} (dp : Int) (w : World) (name value : ByteArray) (fold : Bool) (a b : Int) (last ofT : Bool) (subs : Group) (sa : Option Addr) (sc : Nat) (hn : name.size ≤ 140737488351232) (hv : value.size ≤ 140737488351232) (hdp : 0 ≤ dp ∧ dp ≤ 1000) (hG : 1 < dp → ∀ w', Below w.heap.size w w' → Calls Tryz.prog 24 #[.slice sa subs.length sc, .int .i64 (dp - 1)] w' (OkPost (og subs) w')) :
    Calls Tryz.prog 35 #[.agg #[.int .i64 9, .string name, .string value, .bool fold, .int .i64 a, .int .i64 b, .bool last, .bool ofT, .slice sa subs.length sc], .int .i64 dp] w (OkPost (okSm og (Simple.mk 9 name value fold a b last ofT subs)) w) := by
  clear hG
  cases fold
  · cases last
    · cases ofT
      · have hname := fun w => name_any name w hn
        obtain ⟨n, hnm⟩ : ∃ n, nameL (L name) = n := ⟨_, rfl⟩
        rw [hnm] at hname
        have HNM := Lib.hid hnm
        have HN := Lib.hid hname
        clear hnm hname
        cases n
        · go_enter Tryz.func35, Tryz.ntmps35
          go_wp2_with (go_at_call 36; refine (HN.out _).mono ?_; rintro e w2 ⟨rfl, rfl⟩)
          go_ret
          exact OkPost.no (below_alloc w _)
        · have hval := fun w => value_any value w hv
          have HVL := Lib.hid hval
          clear hval
          have s0 : (w.alloc (.cells #[.int .i64 9, .string name, .string value, .bool false, .int .i64 a, .int .i64 b, .bool false, .bool false, .slice sa subs.length sc] 69)).cell? ⟨w.heap.size, 0, none⟩ = some (.int .i64 9) := by rw [cell_of_heap (heap_alloc_new w _)]; rfl
          have s2 : (w.alloc (.cells #[.int .i64 9, .string name, .string value, .bool false, .int .i64 a, .int .i64 b, .bool false, .bool false, .slice sa subs.length sc] 69)).cell? ⟨w.heap.size, 2, none⟩ = some (.string value) := by rw [cell_of_heap (heap_alloc_new w _)]; rfl
          have S0 := Lib.hid s0
          have S2 := Lib.hid s2
          clear s0 s2
          go_enter Tryz.func35, Tryz.ntmps35
          go_wp2_with (first | (go_at_call 36; refine (HN.out _).mono ?_; rintro e w2 ⟨rfl, rfl⟩) | (go_at_call 50; refine (HVL.out _).mono ?_; rintro e w3 ⟨r, rfl, hr, hb3⟩; have HR := Lib.hid hr; have HB3 := Lib.hid (below_step (below_alloc w _) hb3); have s0 := cell_keep hb3 S0.out; have s2 := cell_keep hb3 S2.out; clear hr hb3; cases r))
          · go_ret
            exact OkPost.no HB3.out
          · go_ret
            exact OkPost.is (fun _ => okSm_mk ⟨by omega, by omega⟩ (fun _ _ _ _ _ _ => HNM.out) (fun _ => HR.out trivial) (fun _ => ⟨by omega, by omega⟩) (fun h1 => by omega) (fun h1 => by omega)) HB3.out
      · go_enter Tryz.func35, Tryz.ntmps35
        go_wp2_with fail
        go_ret
        exact OkPost.no (below_alloc w _)
    · go_enter Tryz.func35, Tryz.ntmps35
      go_wp2_with fail
      go_ret
      exact OkPost.no (below_alloc w _)
  · cases last
    · cases ofT
      · have hname := fun w => name_any name w hn
        obtain ⟨n, hnm⟩ : ∃ n, nameL (L name) = n := ⟨_, rfl⟩
        rw [hnm] at hname
        have HNM := Lib.hid hnm
        have HN := Lib.hid hname
        clear hnm hname
        cases n
        · go_enter Tryz.func35, Tryz.ntmps35
          go_wp2_with (go_at_call 36; refine (HN.out _).mono ?_; rintro e w2 ⟨rfl, rfl⟩)
          go_ret
          exact OkPost.no (below_alloc w _)
        · have hval := fun w => value_any value w hv
          have HVL := Lib.hid hval
          clear hval
          have s0 : (w.alloc (.cells #[.int .i64 9, .string name, .string value, .bool true, .int .i64 a, .int .i64 b, .bool false, .bool false, .slice sa subs.length sc] 69)).cell? ⟨w.heap.size, 0, none⟩ = some (.int .i64 9) := by rw [cell_of_heap (heap_alloc_new w _)]; rfl
          have s2 : (w.alloc (.cells #[.int .i64 9, .string name, .string value, .bool true, .int .i64 a, .int .i64 b, .bool false, .bool false, .slice sa subs.length sc] 69)).cell? ⟨w.heap.size, 2, none⟩ = some (.string value) := by rw [cell_of_heap (heap_alloc_new w _)]; rfl
          have S0 := Lib.hid s0
          have S2 := Lib.hid s2
          clear s0 s2
          go_enter Tryz.func35, Tryz.ntmps35
          go_wp2_with (first | (go_at_call 36; refine (HN.out _).mono ?_; rintro e w2 ⟨rfl, rfl⟩) | (go_at_call 50; refine (HVL.out _).mono ?_; rintro e w3 ⟨r, rfl, hr, hb3⟩; have HR := Lib.hid hr; have HB3 := Lib.hid (below_step (below_alloc w _) hb3); have s0 := cell_keep hb3 S0.out; have s2 := cell_keep hb3 S2.out; clear hr hb3; cases r))
          · go_ret
            exact OkPost.no HB3.out
          · go_ret
            exact OkPost.is (fun _ => okSm_mk ⟨by omega, by omega⟩ (fun _ _ _ _ _ _ => HNM.out) (fun _ => HR.out trivial) (fun _ => ⟨by omega, by omega⟩) (fun h1 => by omega) (fun h1 => by omega)) HB3.out
      · go_enter Tryz.func35, Tryz.ntmps35
        go_wp2_with fail
        go_ret
        exact OkPost.no (below_alloc w _)
    · go_enter Tryz.func35, Tryz.ntmps35
      go_wp2_with fail
      go_ret
      exact OkPost.no (below_alloc w _)

set_option maxRecDepth 100000 in
set_option maxHeartbeats 4000000 in
theorem simple_10 {og : Group → Prop} (dp : Int) (w : World) (name value : ByteArray) (fold : Bool) (a b : Int) (last ofT : Bool) (subs : Group) (sa : Option Addr) (sc : Nat) (hn : name.size ≤ 140737488351232) (hv : value.size ≤ 140737488351232) (hdp : 0 ≤ dp ∧ dp ≤ 1000) (hG : 1 < dp → ∀ w', Below w.heap.size w w' → Calls Tryz.prog 24 #[.slice sa subs.length sc, .int .i64 (dp - 1)] w' (OkPost (og subs) w')) :
    Calls Tryz.prog 35 #[.agg #[.int .i64 10, .string name, .string value, .bool fold, .int .i64 a, .int .i64 b, .bool last, .bool ofT, .slice sa subs.length sc], .int .i64 dp] w (OkPost (okSm og (Simple.mk 10 name value fold a b last ofT subs)) w) := by
  clear hG
  cases fold
  · cases last
    · cases ofT
      · have hname := fun w => name_any name w hn
        obtain ⟨n, hnm⟩ : ∃ n, nameL (L name) = n := ⟨_, rfl⟩
        rw [hnm] at hname
        have HNM := Lib.hid hnm
        have HN := Lib.hid hname
        clear hnm hname
        cases n
        · go_enter Tryz.func35, Tryz.ntmps35
          go_wp2_with (go_at_call 36; refine (HN.out _).mono ?_; rintro e w2 ⟨rfl, rfl⟩)
          go_ret
          exact OkPost.no (below_alloc w _)
        · have hval := fun w => value_any value w hv
          have HVL := Lib.hid hval
          clear hval
          have s0 : (w.alloc (.cells #[.int .i64 10, .string name, .string value, .bool false, .int .i64 a, .int .i64 b, .bool false, .bool false, .slice sa subs.length sc] 69)).cell? ⟨w.heap.size, 0, none⟩ = some (.int .i64 10) := by rw [cell_of_heap (heap_alloc_new w _)]; rfl
          have s2 : (w.alloc (.cells #[.int .i64 10, .string name, .string value, .bool false, .int .i64 a, .int .i64 b, .bool false, .bool false, .slice sa subs.length sc] 69)).cell? ⟨w.heap.size, 2, none⟩ = some (.string value) := by rw [cell_of_heap (heap_alloc_new w _)]; rfl
          have S0 := Lib.hid s0
          have S2 := Lib.hid s2
          clear s0 s2
          go_enter Tryz.func35, Tryz.ntmps35
          go_wp2_with (first | (go_at_call 36; refine (HN.out _).mono ?_; rintro e w2 ⟨rfl, rfl⟩) | (go_at_call 50; refine (HVL.out _).mono ?_; rintro e w3 ⟨r, rfl, hr, hb3⟩; have HR := Lib.hid hr; have HB3 := Lib.hid (below_step (below_alloc w _) hb3); have s0 := cell_keep hb3 S0.out; have s2 := cell_keep hb3 S2.out; clear hr hb3; cases r))
          · go_ret
            exact OkPost.no HB3.out
          · go_ret
            exact OkPost.is (fun _ => okSm_mk ⟨by omega, by omega⟩ (fun _ _ _ _ _ _ => HNM.out) (fun _ => HR.out trivial) (fun _ => ⟨by omega, by omega⟩) (fun h1 => by omega) (fun h1 => by omega)) HB3.out
      · go_enter Tryz.func35, Tryz.ntmps35
        go_wp2_with fail
        go_ret
        exact OkPost.no (below_alloc w _)
    · go_enter Tryz.func35, Tryz.ntmps35
      go_wp2_with fail
      go_ret
      exact OkPost.no (below_alloc w _)
  · cases last
    · cases ofT
      · have hname := fun w => name_any name w hn
        obtain ⟨n, hnm⟩ : ∃ n, nameL (L name) = n := ⟨_, rfl⟩
        rw [hnm] at hname
        have HNM := Lib.hid hnm
        have HN := Lib.hid hname
        clear hnm hname
        cases n
        · go_enter Tryz.func35, Tryz.ntmps35
          go_wp2_with (go_at_call 36; refine (HN.out _).mono ?_; rintro e w2 ⟨rfl, rfl⟩)
          go_ret
          exact OkPost.no (below_alloc w _)
        · have hval := fun w => value_any value w hv
          have HVL := Lib.hid hval
          clear hval
          have s0 : (w.alloc (.cells #[.int .i64 10, .string name, .string value, .bool true, .int .i64 a, .int .i64 b, .bool false, .bool false, .slice sa subs.length sc] 69)).cell? ⟨w.heap.size, 0, none⟩ = some (.int .i64 10) := by rw [cell_of_heap (heap_alloc_new w _)]; rfl
          have s2 : (w.alloc (.cells #[.int .i64 10, .string name, .string value, .bool true, .int .i64 a, .int .i64 b, .bool false, .bool false, .slice sa subs.length sc] 69)).cell? ⟨w.heap.size, 2, none⟩ = some (.string value) := by rw [cell_of_heap (heap_alloc_new w _)]; rfl
          have S0 := Lib.hid s0
          have S2 := Lib.hid s2
          clear s0 s2
          go_enter Tryz.func35, Tryz.ntmps35
          go_wp2_with (first | (go_at_call 36; refine (HN.out _).mono ?_; rintro e w2 ⟨rfl, rfl⟩) | (go_at_call 50; refine (HVL.out _).mono ?_; rintro e w3 ⟨r, rfl, hr, hb3⟩; have HR := Lib.hid hr; have HB3 := Lib.hid (below_step (below_alloc w _) hb3); have s0 := cell_keep hb3 S0.out; have s2 := cell_keep hb3 S2.out; clear hr hb3; cases r))
          · go_ret
            exact OkPost.no HB3.out
          · go_ret
            exact OkPost.is (fun _ => okSm_mk ⟨by omega, by omega⟩ (fun _ _ _ _ _ _ => HNM.out) (fun _ => HR.out trivial) (fun _ => ⟨by omega, by omega⟩) (fun h1 => by omega) (fun h1 => by omega)) HB3.out
      · go_enter Tryz.func35, Tryz.ntmps35
        go_wp2_with fail
        go_ret
        exact OkPost.no (below_alloc w _)
    · go_enter Tryz.func35, Tryz.ntmps35
      go_wp2_with fail
      go_ret
      exact OkPost.no (below_alloc w _)

set_option maxRecDepth 100000 in
set_option maxHeartbeats 4000000 in
theorem simple_16 {og : Group → Prop} (dp : Int) (w : World) (name value : ByteArray) (fold : Bool) (a b : Int) (last ofT : Bool) (subs : Group) (sa : Option Addr) (sc : Nat) (hn : name.size ≤ 140737488351232) (hv : value.size ≤ 140737488351232) (hdp : 0 ≤ dp ∧ dp ≤ 1000) (hG : 1 < dp → ∀ w', Below w.heap.size w w' → Calls Tryz.prog 24 #[.slice sa subs.length sc, .int .i64 (dp - 1)] w' (OkPost (og subs) w')) :
    Calls Tryz.prog 35 #[.agg #[.int .i64 16, .string name, .string value, .bool fold, .int .i64 a, .int .i64 b, .bool last, .bool ofT, .slice sa subs.length sc], .int .i64 dp] w (OkPost (okSm og (Simple.mk 16 name value fold a b last ofT subs)) w) := by
  clear hG
  cases fold
  · cases last
    · cases ofT
      · have hname := fun w => name_any name w hn
        obtain ⟨n, hnm⟩ : ∃ n, nameL (L name) = n := ⟨_, rfl⟩
        rw [hnm] at hname
        have HNM := Lib.hid hnm
        have HN := Lib.hid hname
        clear hnm hname
        cases n
        · go_enter Tryz.func35, Tryz.ntmps35
          go_wp2_with (go_at_call 36; refine (HN.out _).mono ?_; rintro e w2 ⟨rfl, rfl⟩)
          go_ret
          exact OkPost.no (below_alloc w _)
        · have hval := fun w => value_any value w hv
          have HVL := Lib.hid hval
          clear hval
          go_enter Tryz.func35, Tryz.ntmps35
          go_wp2_with (first | (go_at_call 36; refine (HN.out _).mono ?_; rintro e w2 ⟨rfl, rfl⟩) | (go_at_call 50; refine (HVL.out _).mono ?_; rintro e w3 ⟨r, rfl, hr, hb3⟩; have HR := Lib.hid hr; have HB3 := Lib.hid (below_step (below_alloc w _) hb3); clear hr hb3))
          go_ret
          exact OkPost.is (fun h => okSm_mk ⟨by omega, by omega⟩ (fun _ _ _ _ _ _ => HNM.out) (fun _ => HR.out h) (by simp) (fun h1 => by omega) (fun h1 => by omega)) HB3.out
      · go_enter Tryz.func35, Tryz.ntmps35
        go_wp2_with fail
        go_ret
        exact OkPost.no (below_alloc w _)
    · go_enter Tryz.func35, Tryz.ntmps35
      go_wp2_with fail
      go_ret
      exact OkPost.no (below_alloc w _)
  · go_enter Tryz.func35, Tryz.ntmps35
    go_wp2_with fail
    go_ret
    exact OkPost.no (below_alloc w _)

set_option maxRecDepth 100000 in
set_option maxHeartbeats 4000000 in
theorem simple_other {og : Group → Prop} (dp : Int) (w : World) (kind : Int) (name value : ByteArray) (fold : Bool) (a b : Int) (last ofT : Bool) (subs : Group) (sa : Option Addr) (sc : Nat) (hn : name.size ≤ 140737488351232) (hv : value.size ≤ 140737488351232) (hdp : 0 ≤ dp ∧ dp ≤ 1000) (hk : kind < 0 ∨ 16 < kind) :
    Calls Tryz.prog 35 #[.agg #[.int .i64 kind, .string name, .string value, .bool fold, .int .i64 a, .int .i64 b, .bool last, .bool ofT, .slice sa subs.length sc], .int .i64 dp] w (OkPost (okSm og (Simple.mk kind name value fold a b last ofT subs)) w) := by
  have e0 : (kind == 0) = false := by simp; omega
  have e1 : (kind == 1) = false := by simp; omega
  have e2 : (kind == 2) = false := by simp; omega
  have e3 : (kind == 3) = false := by simp; omega
  have e4 : (kind == 4) = false := by simp; omega
  have e5 : (kind == 5) = false := by simp; omega
  have e6 : (kind == 6) = false := by simp; omega
  have e7 : (kind == 7) = false := by simp; omega
  have e8 : (kind == 8) = false := by simp; omega
  have e9 : (kind == 9) = false := by simp; omega
  have e10 : (kind == 10) = false := by simp; omega
  have e11 : (kind == 11) = false := by simp; omega
  have e12 : (kind == 12) = false := by simp; omega
  have e13 : (kind == 13) = false := by simp; omega
  have e14 : (kind == 14) = false := by simp; omega
  have e15 : (kind == 15) = false := by simp; omega
  have e16 : (kind == 16) = false := by simp; omega
  rcases hk with hk | hk
  · have h5 : kind < 5 := by omega
    have e11' : (kind != 11) = true := by simp; omega
    clear hk
    cases fold
    · cases last
      · cases ofT
        · go_enter Tryz.func35, Tryz.ntmps35
          go_wp2_with fail
          go_ret
          exact OkPost.no (below_alloc w _)
        · go_enter Tryz.func35, Tryz.ntmps35
          go_wp2_with fail
          go_ret
          exact OkPost.no (below_alloc w _)
      · go_enter Tryz.func35, Tryz.ntmps35
        go_wp2_with fail
        go_ret
        exact OkPost.no (below_alloc w _)
    · go_enter Tryz.func35, Tryz.ntmps35
      go_wp2_with fail
      go_ret
      exact OkPost.no (below_alloc w _)
  · have h5 : ¬ kind < 5 := by omega
    have h10 : 10 < kind := by omega
    have e11' : (kind != 11) = true := by simp; omega
    clear hk
    cases fold
    · cases last
      · cases ofT
        · go_enter Tryz.func35, Tryz.ntmps35
          go_wp2_with fail
          go_ret
          exact OkPost.no (below_alloc w _)
        · go_enter Tryz.func35, Tryz.ntmps35
          go_wp2_with fail
          go_ret
          exact OkPost.no (below_alloc w _)
      · go_enter Tryz.func35, Tryz.ntmps35
        go_wp2_with fail
        go_ret
        exact OkPost.no (below_alloc w _)
    · go_enter Tryz.func35, Tryz.ntmps35
      go_wp2_with fail
      go_ret
      exact OkPost.no (below_alloc w _)

theorem simple_any {og : Group → Prop} (dp : Int) (w : World) (kind : Int) (name value : ByteArray) (fold : Bool) (a b : Int) (last ofT : Bool) (subs : Group) (sa : Option Addr) (sc : Nat) (hn : name.size ≤ 140737488351232) (hv : value.size ≤ 140737488351232) (hdp : 0 ≤ dp ∧ dp ≤ 1000) (hG : 1 < dp → ∀ w', Below w.heap.size w w' → Calls Tryz.prog 24 #[.slice sa subs.length sc, .int .i64 (dp - 1)] w' (OkPost (og subs) w')) :
    Calls Tryz.prog 35 #[.agg #[.int .i64 kind, .string name, .string value, .bool fold, .int .i64 a, .int .i64 b, .bool last, .bool ofT, .slice sa subs.length sc], .int .i64 dp] w (OkPost (okSm og (Simple.mk kind name value fold a b last ofT subs)) w) := by
  by_cases hk : kind < 0 ∨ 16 < kind
  · exact simple_other dp w kind name value fold a b last ofT subs sa sc hn hv hdp hk
  obtain rfl | rfl | rfl | rfl | rfl | rfl | rfl | rfl | rfl | rfl | rfl | rfl | rfl | rfl | rfl | rfl | rfl : kind = 0 ∨ kind = 1 ∨ kind = 2 ∨ kind = 3 ∨ kind = 4 ∨ kind = 5 ∨ kind = 6 ∨ kind = 7 ∨ kind = 8 ∨ kind = 9 ∨ kind = 10 ∨ kind = 11 ∨ kind = 12 ∨ kind = 13 ∨ kind = 14 ∨ kind = 15 ∨ kind = 16 := by omega
  · exact simple_0 dp w name value fold a b last ofT subs sa sc hn hv hdp hG
  · exact simple_1 dp w name value fold a b last ofT subs sa sc hn hv hdp hG
  · exact simple_2 dp w name value fold a b last ofT subs sa sc hn hv hdp hG
  · exact simple_3 dp w name value fold a b last ofT subs sa sc hn hv hdp hG
  · exact simple_4 dp w name value fold a b last ofT subs sa sc hn hv hdp hG
  · exact simple_5 dp w name value fold a b last ofT subs sa sc hn hv hdp hG
  · exact simple_6 dp w name value fold a b last ofT subs sa sc hn hv hdp hG
  · exact simple_7 dp w name value fold a b last ofT subs sa sc hn hv hdp hG
  · exact simple_8 dp w name value fold a b last ofT subs sa sc hn hv hdp hG
  · exact simple_9 dp w name value fold a b last ofT subs sa sc hn hv hdp hG
  · exact simple_10 dp w name value fold a b last ofT subs sa sc hn hv hdp hG
  · exact simple_11 dp w name value fold a b last ofT subs sa sc hn hv hdp hG
  · exact simple_12 dp w name value fold a b last ofT subs sa sc hn hv hdp hG
  · exact simple_13 dp w name value fold a b last ofT subs sa sc hn hv hdp hG
  · exact simple_14 dp w name value fold a b last ofT subs sa sc hn hv hdp hG
  · exact simple_15 dp w name value fold a b last ofT subs sa sc hn hv hdp hG
  · exact simple_16 dp w name value fold a b last ofT subs sa sc hn hv hdp hG

end Go.Proofs.YteaapgijeehhfaaGreatDoor
