/- spec.simple: of which simple selectors something is stated; printed by gensimple.py. -/
import Derived.Test.YteaapgijeehhfaaGreatDoorZ32
import Derived.Test.YteaapgijeehhfaaGreatDoorZ19
import Derived.Test.YteaapgijeehhfaaGreatDoorZ13
set_option linter.unusedSimpArgs false
set_option linter.unusedVariables false
namespace Go.Proofs.YteaapgijeehhfaaGreatDoor
open Go.RowKit

theorem okSm_mk {og : Group → Prop} {kind : Int} {name value : ByteArray} {fold : Bool} {a b : Int} {last ofT : Bool} {subs : Group}
    (h1 : 0 ≤ kind ∧ kind ≤ 16) (h2 : kind ≠ 1 → kind ≠ 11 → kind ≠ 12 → kind ≠ 13 → kind ≠ 14 → kind ≠ 15 → nameL (L name) = true) (h3 : (5 ≤ kind ∧ kind ≤ 10) ∨ kind = 16 → valueL (L value) = true)
    (h4 : fold = true → 5 ≤ kind ∧ kind ≤ 10) (h5 : kind = 11 → -9 ≤ a ∧ a ≤ 9 ∧ -9 ≤ b ∧ b ≤ 9) (h6 : kind = 14 ∨ kind = 15 → og subs) : okSm og (Simple.mk kind name value fold a b last ofT subs) :=
  ⟨h1, h2, h3, h4, h5, h6⟩

set_option maxRecDepth 100000 in
set_option maxHeartbeats 4000000 in
theorem simple_0 {og : Group → Prop} (dp : Int) (w : World) (name value : ByteArray) (fold : Bool) (a b : Int) (last ofT : Bool) (subs : Group) (sa : Option Addr) (sc : Nat) (hn : name.size ≤ 140737488351232) (hv : value.size ≤ 140737488351232) (hdp : 0 ≤ dp ∧ dp ≤ 1000) (hG : 1 < dp → ∀ w', Below w.heap.size w w' → Calls Tryz.prog 24 #[.slice sa subs.length sc, .int .i64 (dp - 1)] w' (OkPost (og subs) w')) :
    Calls Tryz.prog 35 #[.agg #[.int .i64 0, .string name, .string value, .bool fold, .int .i64 a, .int .i64 b, .bool last, .bool ofT, .slice sa subs.length sc], .int .i64 dp] w (OkPost (okSm og (Simple.mk 0 name value fold a b last ofT subs)) w) := by
  clear hG
  cases fold
  · cases last
    · cases ofT
      · go_enter Tryz.func35, Tryz.ntmps35
        go_wp2_with (go_at_call 36; refine (name_any name _ hn).mono ?_; rintro e w2 ⟨rfl, rfl⟩)
        go_ret
        exact OkPost.is (fun h => okSm_mk ⟨by omega, by omega⟩ (fun _ _ _ _ _ _ => h) (fun h1 => by omega) (by simp) (fun h1 => by omega) (fun h1 => by omega)) (below_alloc w _)
      · go_enter Tryz.func35, Tryz.ntmps35
        go_wp2_with fail
        go_ret
        exact OkPost.no (below_alloc w _)
    · go_enter Tryz.func35, Tryz.ntmps35
      go_wp2_with fail
      go_ret
      exact OkPost.no (below_alloc w _)
  · go_enter Tryz.func35, Tryz.ntmps35
    go_wp2_with fail
    go_ret
    exact OkPost.no (below_alloc w _)

set_option maxRecDepth 100000 in
set_option maxHeartbeats 4000000 in
theorem simple_1 {og : Group → Prop} (dp : Int) (w : World) (name value : ByteArray) (fold : Bool) (a b : Int) (last ofT : Bool) (subs : Group) (sa : Option Addr) (sc : Nat) (hn : name.size ≤ 140737488351232) (hv : value.size ≤ 140737488351232) (hdp : 0 ≤ dp ∧ dp ≤ 1000) (hG : 1 < dp → ∀ w', Below w.heap.size w w' → Calls Tryz.prog 24 #[.slice sa subs.length sc, .int .i64 (dp - 1)] w' (OkPost (og subs) w')) :
    Calls Tryz.prog 35 #[.agg #[.int .i64 1, .string name, .string value, .bool fold, .int .i64 a, .int .i64 b, .bool last, .bool ofT, .slice sa subs.length sc], .int .i64 dp] w (OkPost (okSm og (Simple.mk 1 name value fold a b last ofT subs)) w) := by
  clear hG
  cases fold
  · cases last
    · cases ofT
      · go_enter Tryz.func35, Tryz.ntmps35
        go_wp2_with fail
        go_ret
        exact OkPost.is (fun _ => okSm_mk ⟨by omega, by omega⟩ (fun h1 h2 h3 h4 h5 h6 => absurd rfl h1) (fun h1 => by omega) (by simp) (fun h1 => by omega) (fun h1 => by omega)) (below_alloc w _)
      · go_enter Tryz.func35, Tryz.ntmps35
        go_wp2_with fail
        go_ret
        exact OkPost.no (below_alloc w _)
    · go_enter Tryz.func35, Tryz.ntmps35
      go_wp2_with fail
      go_ret
      exact OkPost.no (below_alloc w _)
  · go_enter Tryz.func35, Tryz.ntmps35
    go_wp2_with fail
    go_ret
    exact OkPost.no (below_alloc w _)

set_option maxRecDepth 100000 in
set_option maxHeartbeats 4000000 in
theorem simple_2 {og : Group → Prop} (dp : Int) (w : World) (name value : ByteArray) (fold : Bool) (a b : Int) (last ofT : Bool) (subs : Group) (sa : Option Addr) (sc : Nat) (hn : name.size ≤ 140737488351232) (hv : value.size ≤ 140737488351232) (hdp : 0 ≤ dp ∧ dp ≤ 1000) (hG : 1 < dp → ∀ w', Below w.heap.size w w' → Calls Tryz.prog 24 #[.slice sa subs.length sc, .int .i64 (dp - 1)] w' (OkPost (og subs) w')) :
    Calls Tryz.prog 35 #[.agg #[.int .i64 2, .string name, .string value, .bool fold, .int .i64 a, .int .i64 b, .bool last, .bool ofT, .slice sa subs.length sc], .int .i64 dp] w (OkPost (okSm og (Simple.mk 2 name value fold a b last ofT subs)) w) := by
  clear hG
  cases fold
  · cases last
    · cases ofT
      · go_enter Tryz.func35, Tryz.ntmps35
        go_wp2_with (go_at_call 36; refine (name_any name _ hn).mono ?_; rintro e w2 ⟨rfl, rfl⟩)
        go_ret
        exact OkPost.is (fun h => okSm_mk ⟨by omega, by omega⟩ (fun _ _ _ _ _ _ => h) (fun h1 => by omega) (by simp) (fun h1 => by omega) (fun h1 => by omega)) (below_alloc w _)
      · go_enter Tryz.func35, Tryz.ntmps35
        go_wp2_with fail
        go_ret
        exact OkPost.no (below_alloc w _)
    · go_enter Tryz.func35, Tryz.ntmps35
      go_wp2_with fail
      go_ret
      exact OkPost.no (below_alloc w _)
  · go_enter Tryz.func35, Tryz.ntmps35
    go_wp2_with fail
    go_ret
    exact OkPost.no (below_alloc w _)

set_option maxRecDepth 100000 in
set_option maxHeartbeats 4000000 in
theorem simple_3 {og : Group → Prop} (dp : Int) (w : World) (name value : ByteArray) (fold : Bool) (a b : Int) (last ofT : Bool) (subs : Group) (sa : Option Addr) (sc : Nat) (hn : name.size ≤ 140737488351232) (hv : value.size ≤ 140737488351232) (hdp : 0 ≤ dp ∧ dp ≤ 1000) (hG : 1 < dp → ∀ w', Below w.heap.size w w' → Calls Tryz.prog 24 #[.slice sa subs.length sc, .int .i64 (dp - 1)] w' (OkPost (og subs) w')) :
    Calls Tryz.prog 35 #[.agg #[.int .i64 3, .string name, .string value, .bool fold, .int .i64 a, .int .i64 b, .bool last, .bool ofT, .slice sa subs.length sc], .int .i64 dp] w (OkPost (okSm og (Simple.mk 3 name value fold a b last ofT subs)) w) := by
  clear hG
  cases fold
  · cases last
    · cases ofT
      · go_enter Tryz.func35, Tryz.ntmps35
        go_wp2_with (go_at_call 36; refine (name_any name _ hn).mono ?_; rintro e w2 ⟨rfl, rfl⟩)
        go_ret
        exact OkPost.is (fun h => okSm_mk ⟨by omega, by omega⟩ (fun _ _ _ _ _ _ => h) (fun h1 => by omega) (by simp) (fun h1 => by omega) (fun h1 => by omega)) (below_alloc w _)
      · go_enter Tryz.func35, Tryz.ntmps35
        go_wp2_with fail
        go_ret
        exact OkPost.no (below_alloc w _)
    · go_enter Tryz.func35, Tryz.ntmps35
      go_wp2_with fail
      go_ret
      exact OkPost.no (below_alloc w _)
  · go_enter Tryz.func35, Tryz.ntmps35
    go_wp2_with fail
    go_ret
    exact OkPost.no (below_alloc w _)

set_option maxRecDepth 100000 in
set_option maxHeartbeats 4000000 in
theorem simple_4 {og : Group → Prop} (dp : Int) (w : World) (name value : ByteArray) (fold : Bool) (a b : Int) (last ofT : Bool) (subs : Group) (sa : Option Addr) (sc : Nat) (hn : name.size ≤ 140737488351232) (hv : value.size ≤ 140737488351232) (hdp : 0 ≤ dp ∧ dp ≤ 1000) (hG : 1 < dp → ∀ w', Below w.heap.size w w' → Calls Tryz.prog 24 #[.slice sa subs.length sc, .int .i64 (dp - 1)] w' (OkPost (og subs) w')) :
    Calls Tryz.prog 35 #[.agg #[.int .i64 4, .string name, .string value, .bool fold, .int .i64 a, .int .i64 b, .bool last, .bool ofT, .slice sa subs.length sc], .int .i64 dp] w (OkPost (okSm og (Simple.mk 4 name value fold a b last ofT subs)) w) := by
  clear hG
  cases fold
  · cases last
    · cases ofT
      · go_enter Tryz.func35, Tryz.ntmps35
        go_wp2_with (go_at_call 36; refine (name_any name _ hn).mono ?_; rintro e w2 ⟨rfl, rfl⟩)
        go_ret
        exact OkPost.is (fun h => okSm_mk ⟨by omega, by omega⟩ (fun _ _ _ _ _ _ => h) (fun h1 => by omega) (by simp) (fun h1 => by omega) (fun h1 => by omega)) (below_alloc w _)
      · go_enter Tryz.func35, Tryz.ntmps35
        go_wp2_with fail
        go_ret
        exact OkPost.no (below_alloc w _)
    · go_enter Tryz.func35, Tryz.ntmps35
      go_wp2_with fail
      go_ret
      exact OkPost.no (below_alloc w _)
  · go_enter Tryz.func35, Tryz.ntmps35
    go_wp2_with fail
    go_ret
    exact OkPost.no (below_alloc w _)

set_option maxRecDepth 100000 in
set_option maxHeartbeats 4000000 in
theorem simple_11 {og : Group → Prop} (dp : Int) (w : World) (name value : ByteArray) (fold : Bool) (a b : Int) (last ofT : Bool) (subs : Group) (sa : Option Addr) (sc : Nat) (hn : name.size ≤ 140737488351232) (hv : value.size ≤ 140737488351232) (hdp : 0 ≤ dp ∧ dp ≤ 1000) (hG : 1 < dp → ∀ w', Below w.heap.size w w' → Calls Tryz.prog 24 #[.slice sa subs.length sc, .int .i64 (dp - 1)] w' (OkPost (og subs) w')) :
    Calls Tryz.prog 35 #[.agg #[.int .i64 11, .string name, .string value, .bool fold, .int .i64 a, .int .i64 b, .bool last, .bool ofT, .slice sa subs.length sc], .int .i64 dp] w (OkPost (okSm og (Simple.mk 11 name value fold a b last ofT subs)) w) := by
  clear hG
  cases fold
  · cases last
    · cases ofT
      · by_cases c0 : -9 ≤ a
        · by_cases c1 : a ≤ 9
          · by_cases c2 : -9 ≤ b
            · by_cases c3 : b ≤ 9
              · go_enter Tryz.func35, Tryz.ntmps35
                go_wp2_with fail
                go_ret
                exact OkPost.is (fun _ => okSm_mk ⟨by omega, by omega⟩ (fun h1 h2 h3 h4 h5 h6 => absurd rfl h2) (fun h1 => by omega) (by simp) (fun _ => ⟨c0, c1, c2, c3⟩) (fun h1 => by omega)) (below_alloc w _)
              · go_enter Tryz.func35, Tryz.ntmps35
                go_wp2_with fail
                go_ret
                exact OkPost.no (below_alloc w _)
            · go_enter Tryz.func35, Tryz.ntmps35
              go_wp2_with fail
              go_ret
              exact OkPost.no (below_alloc w _)
          · go_enter Tryz.func35, Tryz.ntmps35
            go_wp2_with fail
            go_ret
            exact OkPost.no (below_alloc w _)
        · go_enter Tryz.func35, Tryz.ntmps35
          go_wp2_with fail
          go_ret
          exact OkPost.no (below_alloc w _)
      · by_cases c0 : -9 ≤ a
        · by_cases c1 : a ≤ 9
          · by_cases c2 : -9 ≤ b
            · by_cases c3 : b ≤ 9
              · go_enter Tryz.func35, Tryz.ntmps35
                go_wp2_with fail
                go_ret
                exact OkPost.is (fun _ => okSm_mk ⟨by omega, by omega⟩ (fun h1 h2 h3 h4 h5 h6 => absurd rfl h2) (fun h1 => by omega) (by simp) (fun _ => ⟨c0, c1, c2, c3⟩) (fun h1 => by omega)) (below_alloc w _)
              · go_enter Tryz.func35, Tryz.ntmps35
                go_wp2_with fail
                go_ret
                exact OkPost.no (below_alloc w _)
            · go_enter Tryz.func35, Tryz.ntmps35
              go_wp2_with fail
              go_ret
              exact OkPost.no (below_alloc w _)
          · go_enter Tryz.func35, Tryz.ntmps35
            go_wp2_with fail
            go_ret
            exact OkPost.no (below_alloc w _)
        · go_enter Tryz.func35, Tryz.ntmps35
          go_wp2_with fail
          go_ret
          exact OkPost.no (below_alloc w _)
    · by_cases c0 : -9 ≤ a
      · by_cases c1 : a ≤ 9
        · by_cases c2 : -9 ≤ b
          · by_cases c3 : b ≤ 9
            · go_enter Tryz.func35, Tryz.ntmps35
              go_wp2_with fail
              go_ret
              exact OkPost.is (fun _ => okSm_mk ⟨by omega, by omega⟩ (fun h1 h2 h3 h4 h5 h6 => absurd rfl h2) (fun h1 => by omega) (by simp) (fun _ => ⟨c0, c1, c2, c3⟩) (fun h1 => by omega)) (below_alloc w _)
            · go_enter Tryz.func35, Tryz.ntmps35
              go_wp2_with fail
              go_ret
              exact OkPost.no (below_alloc w _)
          · go_enter Tryz.func35, Tryz.ntmps35
            go_wp2_with fail
            go_ret
            exact OkPost.no (below_alloc w _)
        · go_enter Tryz.func35, Tryz.ntmps35
          go_wp2_with fail
          go_ret
          exact OkPost.no (below_alloc w _)
      · go_enter Tryz.func35, Tryz.ntmps35
        go_wp2_with fail
        go_ret
        exact OkPost.no (below_alloc w _)
  · go_enter Tryz.func35, Tryz.ntmps35
    go_wp2_with fail
    go_ret
    exact OkPost.no (below_alloc w _)

set_option maxRecDepth 100000 in
set_option maxHeartbeats 4000000 in
theorem simple_12 {og : Group → Prop} (dp : Int) (w : World) (name value : ByteArray) (fold : Bool) (a b : Int) (last ofT : Bool) (subs : Group) (sa : Option Addr) (sc : Nat) (hn : name.size ≤ 140737488351232) (hv : value.size ≤ 140737488351232) (hdp : 0 ≤ dp ∧ dp ≤ 1000) (hG : 1 < dp → ∀ w', Below w.heap.size w w' → Calls Tryz.prog 24 #[.slice sa subs.length sc, .int .i64 (dp - 1)] w' (OkPost (og subs) w')) :
    Calls Tryz.prog 35 #[.agg #[.int .i64 12, .string name, .string value, .bool fold, .int .i64 a, .int .i64 b, .bool last, .bool ofT, .slice sa subs.length sc], .int .i64 dp] w (OkPost (okSm og (Simple.mk 12 name value fold a b last ofT subs)) w) := by
  clear hG
  cases fold
  · cases last
    · cases ofT
      · go_enter Tryz.func35, Tryz.ntmps35
        go_wp2_with fail
        go_ret
        exact OkPost.is (fun _ => okSm_mk ⟨by omega, by omega⟩ (fun h1 h2 h3 h4 h5 h6 => absurd rfl h3) (fun h1 => by omega) (by simp) (fun h1 => by omega) (fun h1 => by omega)) (below_alloc w _)
      · go_enter Tryz.func35, Tryz.ntmps35
        go_wp2_with fail
        go_ret
        exact OkPost.no (below_alloc w _)
    · go_enter Tryz.func35, Tryz.ntmps35
      go_wp2_with fail
      go_ret
      exact OkPost.no (below_alloc w _)
  · go_enter Tryz.func35, Tryz.ntmps35
    go_wp2_with fail
    go_ret
    exact OkPost.no (below_alloc w _)

set_option maxRecDepth 100000 in
set_option maxHeartbeats 4000000 in
theorem simple_13 {og : Group → Prop} (dp : Int) (w : World) (name value : ByteArray) (fold : Bool) (a b : Int) (last ofT : Bool) (subs : Group) (sa : Option Addr) (sc : Nat) (hn : name.size ≤ 140737488351232) (hv : value.size ≤ 140737488351232) (hdp : 0 ≤ dp ∧ dp ≤ 1000) (hG : 1 < dp → ∀ w', Below w.heap.size w w' → Calls Tryz.prog 24 #[.slice sa subs.length sc, .int .i64 (dp - 1)] w' (OkPost (og subs) w')) :
    Calls Tryz.prog 35 #[.agg #[.int .i64 13, .string name, .string value, .bool fold, .int .i64 a, .int .i64 b, .bool last, .bool ofT, .slice sa subs.length sc], .int .i64 dp] w (OkPost (okSm og (Simple.mk 13 name value fold a b last ofT subs)) w) := by
  clear hG
  cases fold
  · cases last
    · cases ofT
      · go_enter Tryz.func35, Tryz.ntmps35
        go_wp2_with fail
        go_ret
        exact OkPost.is (fun _ => okSm_mk ⟨by omega, by omega⟩ (fun h1 h2 h3 h4 h5 h6 => absurd rfl h4) (fun h1 => by omega) (by simp) (fun h1 => by omega) (fun h1 => by omega)) (below_alloc w _)
      · go_enter Tryz.func35, Tryz.ntmps35
        go_wp2_with fail
        go_ret
        exact OkPost.no (below_alloc w _)
    · go_enter Tryz.func35, Tryz.ntmps35
      go_wp2_with fail
      go_ret
      exact OkPost.no (below_alloc w _)
  · go_enter Tryz.func35, Tryz.ntmps35
    go_wp2_with fail
    go_ret
    exact OkPost.no (below_alloc w _)

set_option maxRecDepth 100000 in
set_option maxHeartbeats 4000000 in
theorem simple_14 {og : Group → Prop} (dp : Int) (w : World) (name value : ByteArray) (fold : Bool) (a b : Int) (last ofT : Bool) (subs : Group) (sa : Option Addr) (sc : Nat) (hn : name.size ≤ 140737488351232) (hv : value.size ≤ 140737488351232) (hdp : 0 ≤ dp ∧ dp ≤ 1000) (hG : 1 < dp → ∀ w', Below w.heap.size w w' → Calls Tryz.prog 24 #[.slice sa subs.length sc, .int .i64 (dp - 1)] w' (OkPost (og subs) w')) :
    Calls Tryz.prog 35 #[.agg #[.int .i64 14, .string name, .string value, .bool fold, .int .i64 a, .int .i64 b, .bool last, .bool ofT, .slice sa subs.length sc], .int .i64 dp] w (OkPost (okSm og (Simple.mk 14 name value fold a b last ofT subs)) w) := by
  cases fold
  · cases last
    · cases ofT
      · by_cases hd : 1 < dp
        · have hg := hG hd _ (below_alloc w (.cells #[.int .i64 14, .string name, .string value, .bool false, .int .i64 a, .int .i64 b, .bool false, .bool false, .slice sa subs.length sc] 69))
          have HGG := Lib.hid hg
          clear hg hG
          go_enter Tryz.func35, Tryz.ntmps35
          go_wp2_with (go_at_call 24; refine HGG.out.mono ?_; rintro e w3 ⟨r, rfl, hr, hb3⟩; have HR := Lib.hid hr; have HB3 := Lib.hid (below_step (below_alloc w _) hb3); clear hr hb3)
          go_ret
          exact OkPost.is (fun h => okSm_mk ⟨by omega, by omega⟩ (fun h1 h2 h3 h4 h5 h6 => absurd rfl h5) (fun h1 => by omega) (by simp) (fun h1 => by omega) (fun _ => HR.out h)) HB3.out
        · clear hG
          go_enter Tryz.func35, Tryz.ntmps35
          go_wp2_with fail
          go_ret
          exact OkPost.no (below_alloc w _)
      · go_enter Tryz.func35, Tryz.ntmps35
        go_wp2_with fail
        go_ret
        exact OkPost.no (below_alloc w _)
    · go_enter Tryz.func35, Tryz.ntmps35
      go_wp2_with fail
      go_ret
      exact OkPost.no (below_alloc w _)
  · go_enter Tryz.func35, Tryz.ntmps35
    go_wp2_with fail
    go_ret
    exact OkPost.no (below_alloc w _)

set_option maxRecDepth 100000 in
set_option maxHeartbeats 4000000 in
theorem simple_15 {og : Group → Prop} (dp : Int) (w : World) (name value : ByteArray) (fold : Bool) (a b : Int) (last ofT : Bool) (subs : Group) (sa : Option Addr) (sc : Nat) (hn : name.size ≤ 140737488351232) (hv : value.size ≤ 140737488351232) (hdp : 0 ≤ dp ∧ dp ≤ 1000) (hG : 1 < dp → ∀ w', Below w.heap.size w w' → Calls Tryz.prog 24 #[.slice sa subs.length sc, .int .i64 (dp - 1)] w' (OkPost (og subs) w')) :
    Calls Tryz.prog 35 #[.agg #[.int .i64 15, .string name, .string value, .bool fold, .int .i64 a, .int .i64 b, .bool last, .bool ofT, .slice sa subs.length sc], .int .i64 dp] w (OkPost (okSm og (Simple.mk 15 name value fold a b last ofT subs)) w) := by
  cases fold
  · cases last
    · cases ofT
      · by_cases hd : 1 < dp
        · have hg := hG hd _ (below_alloc w (.cells #[.int .i64 15, .string name, .string value, .bool false, .int .i64 a, .int .i64 b, .bool false, .bool false, .slice sa subs.length sc] 69))
          have HGG := Lib.hid hg
          clear hg hG
          go_enter Tryz.func35, Tryz.ntmps35
          go_wp2_with (go_at_call 24; refine HGG.out.mono ?_; rintro e w3 ⟨r, rfl, hr, hb3⟩; have HR := Lib.hid hr; have HB3 := Lib.hid (below_step (below_alloc w _) hb3); clear hr hb3)
          go_ret
          exact OkPost.is (fun h => okSm_mk ⟨by omega, by omega⟩ (fun h1 h2 h3 h4 h5 h6 => absurd rfl h6) (fun h1 => by omega) (by simp) (fun h1 => by omega) (fun _ => HR.out h)) HB3.out
        · clear hG
          go_enter Tryz.func35, Tryz.ntmps35
          go_wp2_with fail
          go_ret
          exact OkPost.no (below_alloc w _)
      · go_enter Tryz.func35, Tryz.ntmps35
        go_wp2_with fail
        go_ret
        exact OkPost.no (below_alloc w _)
    · go_enter Tryz.func35, Tryz.ntmps35
      go_wp2_with fail
      go_ret
      exact OkPost.no (below_alloc w _)
  · go_enter Tryz.func35, Tryz.ntmps35
    go_wp2_with fail
    go_ret
    exact OkPost.no (below_alloc w _)

end Go.Proofs.YteaapgijeehhfaaGreatDoor
