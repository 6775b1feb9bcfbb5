/- impl.entries copies a tree. -/
/- laws.nodes copies a tree. -/
/- impl.Match: whether a node matches selectors that are written. -/
import Derived.Test.YteaapgijeehhfaaGreatDoorZ27
import Derived.Test.YteaapgijeehhfaaGreatDoorZ28
import Derived.Test.YteaapgijeehhfaaGreatDoorZ26
import Derived.Test.YteaapgijeehhfaaGreatDoorZ17
set_option linter.unusedSimpArgs false
set_option linter.unusedVariables false
namespace Go.Proofs.YteaapgijeehhfaaGreatDoor
open Go.RowKit

theorem info102 : (Tryz.prog.info? 102).map (fun i => (i.zero, i.size, i.bytes)) = some (some (.agg #[.int .i64 0, .int .u32 0, .string ⟨#[]⟩, .slice none 0 0]), 4, 56) := by kernel_rfl
theorem info103 : (Tryz.prog.info? 103).map (fun i => (i.zero, i.size, i.bytes)) = some (some (.agg #[.string ⟨#[]⟩, .string ⟨#[]⟩]), 2, 32) := by kernel_rfl

def EntPost (l : List Nd) (w : World) (e : Ending) (w' : World) : Prop :=
  ∃ a cap, e = .returned (.slice a l.length cap) ∧ SlX 4 56 (ENd .u32) (fun k => w.heap.size ≤ k) w' (.slice a l.length cap) l ∧ Below w.heap.size w w'

theorem u32_wrap (n : Int) (h : 0 ≤ n ∧ n ≤ 4) : IntKind.u32.wrap n = n := by
  obtain rfl | rfl | rfl | rfl | rfl : n = 0 ∨ n = 1 ∨ n = 2 ∨ n = 3 ∨ n = 4 := by omega
  all_goals rfl

set_option maxRecDepth 100000 in
set_option maxHeartbeats 8000000 in
theorem entries_any (X : Nat → Prop) (w : World) (v : Value) (l : List Nd) (h : RTI X w v l) (hok : okNds l) :
    Calls Tryz.prog 27 #[v] w (EntPost l w) := by
  have HV := Lib.hid (SlI.view h (by omega))
  obtain ⟨a, cap, hv, hgl⟩ := SlI.len h (by omega)
  have HOK := Lib.hid hok
  have HE := ENd.rep .u32
  clear h hok
  subst hv
  go_enter Tryz.func27, Tryz.ntmps27
  go_wp2_with fail
  go_loopw [3, 12] (fun out i wr => ∃ k : Nat, k ≤ l.length ∧ i = .int .i64 k ∧ OwnRep w.heap.size 102 4 56 (ENd .u32) wr out (l.take k) ∧ Below w.heap.size w wr) (fun _ i _ => l.length - (intOf i).toNat)
  case atStart => exact ⟨0, Nat.zero_le _, rfl, OwnRep.made0 _ (Nat.le_refl _), (Below.refl _ _).alloc (Nat.le_refl _) _⟩
  case round =>
    obtain ⟨k, hk, rfl, hown, hb⟩ := hrel
    obtain ⟨oa, oc, rfl⟩ := hown.val k (take_len hk)
    by_cases hlt : k < l.length
    · rcases HV.out with ⟨rfl, _⟩ | ⟨b, o, cap', hve, hX, _, hcb, _, hc⟩
      · simp at hlt
      · simp only [Value.slice.injEq, true_and] at hve
        obtain ⟨rfl, rfl⟩ := hve
        obtain ⟨cs, hcs1, hcs2, av, hcs3, hz1, hz2, hz3, hSl⟩ := hc k hlt
        subst hcs3
        have f0 := cell_keep hb (by simpa using hcs2 0 _ rfl)
        have f1 := cell_keep hb (by simpa using hcs2 1 _ rfl)
        have f2 := cell_keep hb (by simpa using hcs2 2 _ rfl)
        have f3 := cell_keep hb (by simpa using hcs2 3 _ rfl)
        clear hcs1 hcs2 hc
        have hn := HOK.out k hlt
        obtain ⟨n, hnd⟩ : ∃ n, l[k] = n := ⟨_, rfl⟩
        rw [hnd] at f0 f1 f2 hz1 hz2 hz3 hSl hn
        have hkw := u32_wrap n.kind hn.kind
        have HND := Lib.hid hnd
        have HV2 := Lib.hid (SlI.view hSl (by omega))
        obtain ⟨ava, avc, rfl, hal⟩ := SlI.len hSl (by omega)
        have hsw := hb.size
        clear hSl hnd hn
        go_wp2_with fail
        obtain ⟨wi, rfl⟩ : ∃ wi : World, wi = wr := ⟨_, rfl⟩
        go_loopw [27] (fun i wn => ∃ k3 : Nat, k3 ≤ n.attrs.length ∧ i = .int .i64 k3 ∧ (∃ va vn vc, wn.heap[wi.heap.size + 1]? = some (.cells #[.int .i64 n.parent, .int .u32 n.kind, .string n.data, .slice va vn vc] 102 (0, 0)) ∧
            OwnRep (wi.heap.size + 2) 103 2 32 EAt wn (.slice va vn vc) (n.attrs.take k3)) ∧ Below wi.heap.size wi wn) (fun i _ => n.attrs.length - (intOf i).toNat)
        case atStart => exact ⟨0, Nat.zero_le _, rfl, ⟨none, 0, 0, by have := heap_alloc_new (wi.alloc (.cells #[.int .i64 n.parent, .int .i64 n.kind, .string n.data, .slice ava n.attrs.length avc] 51)) (.cells #[.int .i64 n.parent, .int .u32 n.kind, .string n.data, .slice none 0 0] 102); simpa using this, OwnRep.nil _ _ _ _ _ _⟩, ((Below.refl _ _).alloc (Nat.le_refl _) _).alloc (by simp) _⟩
        case round =>
          obtain ⟨k3, hk3, rfl, ⟨va, vn, vc, hY, hown3⟩, hb3⟩ := hrel
          have hs3 := hb3.size
          have y0 := cell_of_heap hY 0
          have y1 := cell_of_heap hY 1
          have y2 := cell_of_heap hY 2
          have y3 := cell_of_heap hY 3
          have yf := free_of_heap hY 3
          have hYl := lt_of_heap hY
          have HY := Lib.hid hY
          obtain ⟨va', vc', hve⟩ := hown3.val k3 (take_len hk3)
          simp only [Value.slice.injEq] at hve
          obtain ⟨rfl, rfl, rfl⟩ := hve
          clear hY
          by_cases hlt3 : vn < n.attrs.length
          · rcases HV2.out with ⟨hpe, _⟩ | ⟨b3, o3, cap3', hve3, hX3, _, hcb3, hpos3, hc3⟩
            · rw [hpe] at hlt3; simp at hlt3
            · simp only [Value.slice.injEq, true_and] at hve3
              obtain ⟨rfl, rfl⟩ := hve3
              obtain ⟨cs3, hcs31, hcs32, hcs33, ha1, ha2⟩ := hc3 vn hlt3
              subst hcs33
              have hbw := hb.trans (hb3.mono hb.size)
              have g0 := cell_keep hbw (by simpa using hcs32 0 _ rfl)
              have g1 := cell_keep hbw (by simpa using hcs32 1 _ rfl)
              clear hcs31 hcs32 hc3
              obtain ⟨q, hqd⟩ : ∃ q, n.attrs[vn] = q := ⟨_, rfl⟩
              rw [hqd] at g0 g1 ha1 ha2
              have HQ := Lib.hid hqd
              have hO2 := Lib.hid hown3
              have hB3 := Lib.hid hb3
              have hlv := Lib.hid hown3.block_lt
              have hbt : (vn + 1) * 32 ≤ 140737488355328 := by omega
              have hne2 : (Value.slice va vn vc).ownBlock ≠ some (wi.heap.size + 1) := fun e => by have := (hlv.out _ e).1; omega
              have hne2' := Lib.hid hne2
              clear hown3 hown hb hb3 hbw hqd hne2
              go_wp2_with ((at_builtin; refine wpList_push EAt.rep (wi.heap.size + 2) rfl (.tmp 32) (.tmp 38) 100 103 (.agg #[.string ⟨#[]⟩, .string ⟨#[]⟩]) 2 32 rfl Tryz.underlying100 info103 rfl (by decide) (by decide) (.slice va vn vc) (n.attrs.take vn) [.string q.1, .string q.2] q ⟨wr.heap.size + 1, 0, none⟩ rfl rfl rfl ?c1 (news_at _ _ _ _ (by simp)) ?c3 ⟨rfl, ha1, ha2⟩ ?c5 ?c6 ?_))
              case c1 => intro u hu; simp at hu; rcases hu with rfl | rfl <;> rfl
              case c3 => exact OwnRep.below EAt.rep (((below_alloc wr _).alloc (Below.size (below_alloc wr _)) _)) hO2.out
              case c5 => simp; omega
              case c6 => rw [take_len hk3]; exact hbt
              · intro gg cap4 w1 hO hG hat hgl4
                have z3 := grown_cell hG hne2'.out (cell_keep ((below_alloc wr _).alloc (Below.size (below_alloc wr _)) _) y3)
                have zf := grown_free hG hne2'.out (by simp; omega) (below_free ((below_alloc wr (.cells #[.string q.1, .string q.2] 86)).alloc (Below.size (below_alloc wr _)) (.cells #[.string q.1, .string q.2] 103)) hYl yf)
                have zY : w1.heap[wi.heap.size + 1]? = some (.cells #[.int .i64 n.parent, .int .u32 n.kind, .string n.data, .slice va vn vc] 102 (0, 0)) := by
                  rw [hG.block _ (by simp; omega) (fun e => hne2'.out e.symm)]
                  exact heap_keep ((below_alloc wr _).alloc (Below.size (below_alloc wr _)) _) HY.out
                have hZ := Lib.hid (heap_setCell_same (c := 3) (u := .slice (some ⟨gg, 0, none⟩) (vn + 1) cap4) zY)
                have hO5 := Lib.hid (hO.keep EAt.rep (w' := w1.setCell ⟨wi.heap.size + 1, 3, none⟩ (.slice (some ⟨gg, 0, none⟩) (vn + 1) cap4)) (fun j _ hx => Below.heap_setCell w1 ⟨wi.heap.size + 1, 3, none⟩ _ j (show j ≠ wi.heap.size + 1 by omega)) (by simp [World.setCell]))
                have hB5 := Lib.hid ((below_grown (((hB3.out.alloc hB3.out.size _).alloc (by simp; omega) _)) hG (by simp; omega) (fun j hj => by have := (hlv.out j hj).1; omega)).setCell (p := ⟨wi.heap.size + 1, 3, none⟩) (by simp) (.slice (some ⟨gg, 0, none⟩) (vn + 1) cap4))
                clear hO hG hat zY
                go_wp2_with fail
                go_roundw
                case rel => exact ⟨vn + 1, by omega, by go_num, ⟨_, _, _, hZ.out, by rw [← take_push hlt3 HQ.out]; exact hO5.out⟩, hB5.out⟩
                case measure => simp [intOf]; omega
          · rw [take_all hlt3] at hown3
            obtain rfl : vn = n.attrs.length := by omega
            have hO1 := Lib.hid (OwnRep.below HE hb3 hown)
            have hltx := Lib.hid hown.block_lt
            have hel := Lib.hid (OwnRep.slice EAt.rep hown3)
            have hbb := Lib.hid (hb.trans (hb3.mono hb.size))
            have hbt : (k + 1) * 56 ≤ 140737488355328 := by omega
            clear hown hown3 hb hb3
            go_wp2_with ((at_builtin; (refine wpList_push (ENd.rep .u32) w.heap.size rfl (.tmp 42) (.tmp 44) 61 102 (.agg #[.int .i64 0, .int .u32 0, .string ⟨#[]⟩, .slice none 0 0]) 4 56 rfl Tryz.underlying61 info102 rfl (by decide) (by decide) (.slice oa k oc) (l.take k) [.int .i64 n.parent, .int .u32 n.kind, .string n.data, .slice va n.attrs.length vc] n ⟨wr.heap.size, 0, none⟩ rfl rfl rfl ?c1 (news_alloc wr _ _) ?c3 ?c4 ?c5 ?c6 ?_)))
            case c1 => intro u hu; simp at hu; rcases hu with rfl | rfl | rfl | rfl <;> rfl
            case c3 => exact OwnRep.below HE ((Below.refl _ _).alloc (Nat.le_refl _) _) hO1.out
            case c4 =>
              refine ⟨_, rfl, hz1, hz2, hz3, ?_⟩
              refine (SlX.rep EAt.rep (by omega)).mono ?_ ((SlX.rep EAt.rep (by omega)).keep (KeepX.of_all ((Below.refl _ _).alloc (Nat.le_refl _) _)) hel.out)
              intro j hj
              refine ⟨by omega, fun e => ?_⟩
              have := (hltx.out j e.symm).2
              omega
            case c5 => simp; omega
            case c6 => rw [take_len hk]; exact hbt
            · intro gg cap3 w1 hO hG hat hgl
              have hO := Lib.hid hO
              have hB1 := Lib.hid (below_grown hbb.out ((World.grownBy_alloc wr _ _).trans hG) (by omega) (fun j hj => (hltx.out j hj).1))
              clear hG hat
              go_wp2_with fail
              go_roundw
              case rel => exact ⟨k + 1, by omega, by go_num, by rw [← take_push hlt HND.out]; exact hO.out, hB1.out⟩
              case measure => simp [intOf]; omega
    · rw [take_all hlt] at hown
      obtain rfl : k = l.length := by omega
      have hO := Lib.hid (OwnRep.slice HE hown)
      have HB := Lib.hid hb
      clear hown hb
      go_wp2_with fail
      go_ret
      exact ⟨_, _, rfl, hO.out, HB.out⟩
end Go.Proofs.YteaapgijeehhfaaGreatDoor

namespace Go.Proofs.YteaapgijeehhfaaGreatDoor
open Go.RowKit

theorem info36 : (Tryz.prog.info? 36).map (fun i => (i.zero, i.size, i.bytes)) = some (some (.agg #[.int .i64 0, .int .i64 0, .string ⟨#[]⟩, .slice none 0 0]), 4, 56) := by kernel_rfl
theorem info87 : (Tryz.prog.info? 87).map (fun i => (i.zero, i.size, i.bytes)) = some (some (.agg #[.string ⟨#[]⟩, .string ⟨#[]⟩]), 2, 32) := by kernel_rfl

def NodePost (l : List Nd) (w : World) (e : Ending) (w' : World) : Prop :=
  ∃ a cap, e = .returned (.slice a l.length cap) ∧ SlX 4 56 (ENd .i64) (fun k => w.heap.size ≤ k) w' (.slice a l.length cap) l ∧ Below w.heap.size w w'

set_option maxRecDepth 100000 in
set_option maxHeartbeats 8000000 in
theorem nodes_any (X : Nat → Prop) (w : World) (v : Value) (l : List Nd) (h : RTI X w v l) :
    Calls Tryz.prog 23 #[v] w (NodePost l w) := by
  have HV := Lib.hid (SlI.view h (by omega))
  obtain ⟨a, cap, hv, hgl⟩ := SlI.len h (by omega)
  have HE := ENd.rep .i64
  clear h
  subst hv
  go_enter Tryz.func23, Tryz.ntmps23
  go_wp2_with fail
  go_loopw [3, 12] (fun out i wr => ∃ k : Nat, k ≤ l.length ∧ i = .int .i64 k ∧ OwnRep w.heap.size 36 4 56 (ENd .i64) wr out (l.take k) ∧ Below w.heap.size w wr) (fun _ i _ => l.length - (intOf i).toNat)
  case atStart => exact ⟨0, Nat.zero_le _, rfl, OwnRep.made0 _ (Nat.le_refl _), (Below.refl _ _).alloc (Nat.le_refl _) _⟩
  case round =>
    obtain ⟨k, hk, rfl, hown, hb⟩ := hrel
    obtain ⟨oa, oc, rfl⟩ := hown.val k (take_len hk)
    by_cases hlt : k < l.length
    · rcases HV.out with ⟨rfl, _⟩ | ⟨b, o, cap', hve, hX, _, hcb, _, hc⟩
      · simp at hlt
      · simp only [Value.slice.injEq, true_and] at hve
        obtain ⟨rfl, rfl⟩ := hve
        obtain ⟨cs, hcs1, hcs2, av, hcs3, hz1, hz2, hz3, hSl⟩ := hc k hlt
        subst hcs3
        have f0 := cell_keep hb (by simpa using hcs2 0 _ rfl)
        have f1 := cell_keep hb (by simpa using hcs2 1 _ rfl)
        have f2 := cell_keep hb (by simpa using hcs2 2 _ rfl)
        have f3 := cell_keep hb (by simpa using hcs2 3 _ rfl)
        clear hcs1 hcs2 hc
        obtain ⟨n, hnd⟩ : ∃ n, l[k] = n := ⟨_, rfl⟩
        rw [hnd] at f0 f1 f2 hz1 hz2 hz3 hSl
        have HND := Lib.hid hnd
        have HV2 := Lib.hid (SlI.view hSl (by omega))
        obtain ⟨ava, avc, rfl, hal⟩ := SlI.len hSl (by omega)
        have hsw := hb.size
        clear hSl hnd
        go_wp2_with fail
        obtain ⟨wi, rfl⟩ : ∃ wi : World, wi = wr := ⟨_, rfl⟩
        go_loopw [26] (fun i wn => ∃ k3 : Nat, k3 ≤ n.attrs.length ∧ i = .int .i64 k3 ∧ (∃ va vn vc, wn.heap[wi.heap.size + 1]? = some (.cells #[.int .i64 n.parent, .int .i64 n.kind, .string n.data, .slice va vn vc] 36 (0, 0)) ∧
            OwnRep (wi.heap.size + 2) 87 2 32 EAt wn (.slice va vn vc) (n.attrs.take k3)) ∧ Below wi.heap.size wi wn) (fun i _ => n.attrs.length - (intOf i).toNat)
        case atStart => exact ⟨0, Nat.zero_le _, rfl, ⟨none, 0, 0, by have := heap_alloc_new (wi.alloc (.cells #[.int .i64 n.parent, .int .i64 n.kind, .string n.data, .slice ava n.attrs.length avc] 51)) (.cells #[.int .i64 n.parent, .int .i64 n.kind, .string n.data, .slice none 0 0] 36); simpa using this, OwnRep.nil _ _ _ _ _ _⟩, ((Below.refl _ _).alloc (Nat.le_refl _) _).alloc (by simp) _⟩
        case round =>
          obtain ⟨k3, hk3, rfl, ⟨va, vn, vc, hY, hown3⟩, hb3⟩ := hrel
          have hs3 := hb3.size
          have y0 := cell_of_heap hY 0
          have y1 := cell_of_heap hY 1
          have y2 := cell_of_heap hY 2
          have y3 := cell_of_heap hY 3
          have yf := free_of_heap hY 3
          have hYl := lt_of_heap hY
          have HY := Lib.hid hY
          obtain ⟨va', vc', hve⟩ := hown3.val k3 (take_len hk3)
          simp only [Value.slice.injEq] at hve
          obtain ⟨rfl, rfl, rfl⟩ := hve
          clear hY
          by_cases hlt3 : vn < n.attrs.length
          · rcases HV2.out with ⟨hpe, _⟩ | ⟨b3, o3, cap3', hve3, hX3, _, hcb3, hpos3, hc3⟩
            · rw [hpe] at hlt3; simp at hlt3
            · simp only [Value.slice.injEq, true_and] at hve3
              obtain ⟨rfl, rfl⟩ := hve3
              obtain ⟨cs3, hcs31, hcs32, hcs33, ha1, ha2⟩ := hc3 vn hlt3
              subst hcs33
              have hbw := hb.trans (hb3.mono hb.size)
              have g0 := cell_keep hbw (by simpa using hcs32 0 _ rfl)
              have g1 := cell_keep hbw (by simpa using hcs32 1 _ rfl)
              clear hcs31 hcs32 hc3
              obtain ⟨q, hqd⟩ : ∃ q, n.attrs[vn] = q := ⟨_, rfl⟩
              rw [hqd] at g0 g1 ha1 ha2
              have HQ := Lib.hid hqd
              have hO2 := Lib.hid hown3
              have hB3 := Lib.hid hb3
              have hlv := Lib.hid hown3.block_lt
              have hbt : (vn + 1) * 32 ≤ 140737488355328 := by omega
              have hne2 : (Value.slice va vn vc).ownBlock ≠ some (wi.heap.size + 1) := fun e => by have := (hlv.out _ e).1; omega
              have hne2' := Lib.hid hne2
              clear hown3 hown hb hb3 hbw hqd hne2
              go_wp2_with ((at_builtin; refine wpList_push EAt.rep (wi.heap.size + 2) rfl (.tmp 31) (.tmp 37) 34 87 (.agg #[.string ⟨#[]⟩, .string ⟨#[]⟩]) 2 32 rfl Tryz.underlying34 info87 rfl (by decide) (by decide) (.slice va vn vc) (n.attrs.take vn) [.string q.1, .string q.2] q ⟨wr.heap.size + 1, 0, none⟩ rfl rfl rfl ?c1 (news_at _ _ _ _ (by simp)) ?c3 ⟨rfl, ha1, ha2⟩ ?c5 ?c6 ?_))
              case c1 => intro u hu; simp at hu; rcases hu with rfl | rfl <;> rfl
              case c3 => exact OwnRep.below EAt.rep (((below_alloc wr _).alloc (Below.size (below_alloc wr _)) _)) hO2.out
              case c5 => simp; omega
              case c6 => rw [take_len hk3]; exact hbt
              · intro gg cap4 w1 hO hG hat hgl4
                have z3 := grown_cell hG hne2'.out (cell_keep ((below_alloc wr _).alloc (Below.size (below_alloc wr _)) _) y3)
                have zf := grown_free hG hne2'.out (by simp; omega) (below_free ((below_alloc wr (.cells #[.string q.1, .string q.2] 86)).alloc (Below.size (below_alloc wr _)) (.cells #[.string q.1, .string q.2] 87)) hYl yf)
                have zY : w1.heap[wi.heap.size + 1]? = some (.cells #[.int .i64 n.parent, .int .i64 n.kind, .string n.data, .slice va vn vc] 36 (0, 0)) := by
                  rw [hG.block _ (by simp; omega) (fun e => hne2'.out e.symm)]
                  exact heap_keep ((below_alloc wr _).alloc (Below.size (below_alloc wr _)) _) HY.out
                have hZ := Lib.hid (heap_setCell_same (c := 3) (u := .slice (some ⟨gg, 0, none⟩) (vn + 1) cap4) zY)
                have hO5 := Lib.hid (hO.keep EAt.rep (w' := w1.setCell ⟨wi.heap.size + 1, 3, none⟩ (.slice (some ⟨gg, 0, none⟩) (vn + 1) cap4)) (fun j _ hx => Below.heap_setCell w1 ⟨wi.heap.size + 1, 3, none⟩ _ j (show j ≠ wi.heap.size + 1 by omega)) (by simp [World.setCell]))
                have hB5 := Lib.hid ((below_grown (((hB3.out.alloc hB3.out.size _).alloc (by simp; omega) _)) hG (by simp; omega) (fun j hj => by have := (hlv.out j hj).1; omega)).setCell (p := ⟨wi.heap.size + 1, 3, none⟩) (by simp) (.slice (some ⟨gg, 0, none⟩) (vn + 1) cap4))
                clear hO hG hat zY
                go_wp2_with fail
                go_roundw
                case rel => exact ⟨vn + 1, by omega, by go_num, ⟨_, _, _, hZ.out, by rw [← take_push hlt3 HQ.out]; exact hO5.out⟩, hB5.out⟩
                case measure => simp [intOf]; omega
          · rw [take_all hlt3] at hown3
            obtain rfl : vn = n.attrs.length := by omega
            have hO1 := Lib.hid (OwnRep.below HE hb3 hown)
            have hltx := Lib.hid hown.block_lt
            have hel := Lib.hid (OwnRep.slice EAt.rep hown3)
            have hbb := Lib.hid (hb.trans (hb3.mono hb.size))
            have hbt : (k + 1) * 56 ≤ 140737488355328 := by omega
            clear hown hown3 hb hb3
            go_wp2_with ((at_builtin; (refine wpList_push (ENd.rep .i64) w.heap.size rfl (.tmp 41) (.tmp 43) 26 36 (.agg #[.int .i64 0, .int .i64 0, .string ⟨#[]⟩, .slice none 0 0]) 4 56 rfl Tryz.underlying26 info36 rfl (by decide) (by decide) (.slice oa k oc) (l.take k) [.int .i64 n.parent, .int .i64 n.kind, .string n.data, .slice va n.attrs.length vc] n ⟨wr.heap.size, 0, none⟩ rfl rfl rfl ?c1 (news_alloc wr _ _) ?c3 ?c4 ?c5 ?c6 ?_)))
            case c1 => intro u hu; simp at hu; rcases hu with rfl | rfl | rfl | rfl <;> rfl
            case c3 => exact OwnRep.below HE ((Below.refl _ _).alloc (Nat.le_refl _) _) hO1.out
            case c4 =>
              refine ⟨_, rfl, hz1, hz2, hz3, ?_⟩
              refine (SlX.rep EAt.rep (by omega)).mono ?_ ((SlX.rep EAt.rep (by omega)).keep (KeepX.of_all ((Below.refl _ _).alloc (Nat.le_refl _) _)) hel.out)
              intro j hj
              refine ⟨by omega, fun e => ?_⟩
              have := (hltx.out j e.symm).2
              omega
            case c5 => simp; omega
            case c6 => rw [take_len hk]; exact hbt
            · intro gg cap3 w1 hO hG hat hgl
              have hO := Lib.hid hO
              have hB1 := Lib.hid (below_grown hbb.out ((World.grownBy_alloc wr _ _).trans hG) (by omega) (fun j hj => (hltx.out j hj).1))
              clear hG hat
              go_wp2_with fail
              go_roundw
              case rel => exact ⟨k + 1, by omega, by go_num, by rw [← take_push hlt HND.out]; exact hO.out, hB1.out⟩
              case measure => simp [intOf]; omega
    · rw [take_all hlt] at hown
      obtain rfl : k = l.length := by omega
      have hO := Lib.hid (OwnRep.slice HE hown)
      have HB := Lib.hid hb
      clear hown hb
      go_wp2_with fail
      go_ret
      exact ⟨_, _, rfl, hO.out, HB.out⟩
end Go.Proofs.YteaapgijeehhfaaGreatDoor

namespace Go.Proofs.YteaapgijeehhfaaGreatDoor
open Go.RowKit

theorem g_top {w : World} {bl : Nat → Nat} {t : List Nk} {T : Nat → Int} (hl : t.length ≤ 1000) (ht : TreeAt w bl t) (hT : Tbl w T) (X : Nat → Prop) (d : Nat) (g : Group) (v : Value) (hok : ∀ c ∈ g, okCx (okG d) c) (h : RS (d + 1) X w v g) :
    SelsRep t.length bl w v (mG T t (d + 1) g) :=
  sels_of (mCx T t (mG T t d)) h fun c hc _ hu => cx_rep (g_rep hl ht hT X d) hl ht hT (hok c hc) hu

/-- What a group answers at a node. -/
def answer (T : Nat → Int) (nl : List Nd) (D : Nat) (g : Group) (i : Nat) : Bool := (mG T (treeOf nl) D g).any fun m => m i

set_option maxRecDepth 100000 in
set_option maxHeartbeats 4000000 in
theorem zzMatch_any (T : Nat → Int) (D : Nat) (hD : D ≤ 100) (w : World) (c0 : Complex) (l : List (List UInt8 × Complex)) (s : ByteArray) (hse : L s = wItems (wG D) c0 l) (hs : s.size ≤ 140737488351232)
    (h0 : okCx (okG D) c0) (hl : ∀ it ∈ l, (it.1 = [] ∨ it.1 = [32]) ∧ okCx (okG D) it.2) (hll : l.length ≤ 100)
    (X : Nat → Prop) (v : Value) (nl : List Nd) (h : SlX 4 56 (ENd .u32) X w v nl) (hok : okNds nl) (hlen : nl.length ≤ 1000) (i : Nat) (hi : i < nl.length) (hT : Tbl w T) :
    Calls Tryz.prog 26 #[.string s, v, .int .i64 i] w fun e w' => e = .returned (.tuple #[.bool (answer T nl (D + 1) (c0 :: l.map Prod.snd) i), .nilIface]) ∧ Below w.heap.size w w' := by
  have HP := Lib.hid (parseTop_any D hD w c0 l s hse hs h0 hl hll)
  have hcx : ∀ c ∈ c0 :: l.map Prod.snd, okCx (okG D) c := by
    intro c hc
    rcases List.mem_cons.1 hc with rfl | hc
    · exact h0
    · obtain ⟨it, hit, rfl⟩ := List.mem_map.1 hc
      exact (hl it hit).2
  obtain ⟨g, hg⟩ : ∃ g, c0 :: l.map Prod.snd = g := ⟨_, rfl⟩
  rw [hg] at HP hcx ⊢
  have HCX := Lib.hid hcx
  have HS := Lib.hid h
  have HOK := Lib.hid hok
  have HT := Lib.hid hT
  clear hse h0 hl hll hcx hg h hok hT
  go_enter Tryz.func26, Tryz.ntmps26
  go_wp2_with (go_at_call 37; refine HP.out.mono ?_; rintro e w1 ⟨sv, rfl, hsv, hb1⟩; obtain ⟨sa, sc, rfl, hsl⟩ := SlX.len hsv (by omega); have HSV := Lib.hid hsv; have HB1 := Lib.hid hb1; clear hsv hb1)
  refine (zzTree_any X w1 v nl ((SlX.rep (ENd.rep .u32) (by omega)).keep (KeepX.of_all HB1.out) HS.out) HOK.out (by omega) hlen).mono ?_
  rintro e w2 ⟨b, o, cap, bl, rfl, ht, hc, hb2⟩
  have hlt : (treeOf nl).length = nl.length := treeOf_len nl
  have hsel := g_top (by rw [hlt]; exact hlen) ht ((HT.out.keep HB1.out).keep hb2) _ D g _ HCX.out ((RS.rep (D + 1)).keep (KeepX.of_all hb2) HSV.out)
  have hci := hc i hi
  have hgm := groupMatch_any (treeOf nl).length bl w2 _ _ i (by rw [hlt]; exact hi) hsel
  have HG := Lib.hid hgm
  have HB2 := Lib.hid (below_step HB1.out hb2)
  clear ht hc hb2 hsel hgm hlt
  go_wp2_with (go_at_call 38; refine HG.out.mono ?_; rintro e w3 ⟨rfl, hb3⟩)
  exact bodyPost_ret (v := .tuple #[.bool (answer T nl (D + 1) g i), .nilIface]) (by simp [results, Tryz.results26, go_sem, answer]) rfl ⟨rfl, below_step HB2.out hb3⟩

set_option maxRecDepth 100000 in
set_option maxHeartbeats 4000000 in
theorem match_any (T : Nat → Int) (D : Nat) (hD : D ≤ 100) (w : World) (c0 : Complex) (l : List (List UInt8 × Complex)) (s : ByteArray) (hse : L s = wItems (wG D) c0 l) (hs : s.size ≤ 140737488351232)
    (h0 : okCx (okG D) c0) (hl : ∀ it ∈ l, (it.1 = [] ∨ it.1 = [32]) ∧ okCx (okG D) it.2) (hll : l.length ≤ 100)
    (X : Nat → Prop) (v : Value) (nl : List Nd) (h : RTI X w v nl) (hok : okNds nl) (hlen : nl.length ≤ 1000) (i : Nat) (hi : i < nl.length) (hT : Tbl w T) :
    Calls Tryz.prog 12 #[.string s, v, .int .i64 i] w fun e w' => e = .returned (.tuple #[.bool (answer T nl (D + 1) (c0 :: l.map Prod.snd) i), .bool true]) ∧ Below w.heap.size w w' := by
  have HE := Lib.hid (entries_any X w v nl h hok)
  have HZ := Lib.hid (fun (w1 : World) (X1 : Nat → Prop) (v1 : Value) (h1 : SlX 4 56 (ENd .u32) X1 w1 v1 nl) (hT1 : Tbl w1 T) => zzMatch_any T D hD w1 c0 l s hse hs h0 hl hll X1 v1 nl h1 hok hlen i hi hT1)
  obtain ⟨r, hr⟩ : ∃ r, answer T nl (D + 1) (c0 :: l.map Prod.snd) i = r := ⟨_, rfl⟩
  rw [hr] at HZ ⊢
  have HT := Lib.hid hT
  clear hse h0 hl hll h hok hT hr
  go_enter Tryz.func12, Tryz.ntmps12
  go_wp2_with (first | (go_at_call 27; refine HE.out.mono ?_; rintro e w1 ⟨a, cap, rfl, hsl, hb1⟩; have HSL := Lib.hid hsl; have HB1 := Lib.hid hb1; clear hsl hb1) | (go_at_call 26; refine (HZ.out _ _ _ HSL.out (HT.out.keep HB1.out)).mono ?_; rintro e w2 ⟨rfl, hb2⟩; have HB2 := Lib.hid (below_step HB1.out hb2); clear hb2))
  go_quiet (fail)
  go_wp2_with fail
  exact bodyPost_ret (v := .tuple #[.bool r, .bool true]) (by simp [results, Tryz.results12, go_sem]) rfl ⟨rfl, below_drewN HB2.out _⟩
end Go.Proofs.YteaapgijeehhfaaGreatDoor
