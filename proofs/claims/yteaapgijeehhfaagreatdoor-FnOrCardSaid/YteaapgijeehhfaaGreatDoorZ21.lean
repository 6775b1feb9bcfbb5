/- zzIndexAny: where a text has white space first. -/
/- Whether a text is one of the words of another. -/
/- Selectors of a class. -/
import Derived.Test.YteaapgijeehhfaaGreatDoorZ20
import Derived.Laws.RangeString
namespace Go.Proofs.YteaapgijeehhfaaGreatDoor
open Go.RowKit

/-- The world with the iterator at block N one step on. -/
def iterTo (W : World) (N : Nat) (s : ByteArray) (pos : Nat) : World := { W with heap := W.heap.setIfInBounds N (.stringIter s pos) }

theorem run_next_at (W : World) (N : Nat) (s : ByteArray) (pos : Nat) (ty : TypeId) (hN : W.heap[N]? = some (.stringIter s pos)) (h : pos < s.size) (ha : (s[pos]'h).toNat < 128) :
    (Instr.next (.pointer (some ⟨N, 0, none⟩)) true ty).run Tryz.prog W = .ok (.tuple #[.bool true, .int .i64 pos, .int .i32 (s[pos]'h).toNat]) (iterTo W N s (pos + 1)) := by
  simp only [Instr.next, getObj, setObj, Sem.run_bind, Sem.run, hN, Result.andThen, h, if_true, decode_ascii s pos h ha, iterTo]
  rfl
theorem run_next_fin (W : World) (N : Nat) (s : ByteArray) (pos : Nat) (ty : TypeId) (hN : W.heap[N]? = some (.stringIter s pos)) (h : ¬ pos < s.size) :
    (Instr.next (.pointer (some ⟨N, 0, none⟩)) true ty).run Tryz.prog W = .ok (.tuple #[.bool false]) W := by
  simp [Instr.next, getObj, Sem.run, hN, h]

theorem iterTo_at {W : World} {N : Nat} {s s' : ByteArray} {pos pos' : Nat} (h : W.heap[N]? = some (.stringIter s' pos')) : (iterTo W N s pos).heap[N]? = some (.stringIter s pos) := by
  have := lt_of_heap h
  simp [iterTo, this]
theorem iterTo_below {B : Nat} {w W : World} {N : Nat} {s : ByteArray} {pos : Nat} (h : Below B w W) (hN : B ≤ N) : Below B w (iterTo W N s pos) :=
  ⟨h.os, h.tape, h.output, by simpa [iterTo] using h.size, fun k hk => by
    have : N ≠ k := by omega
    rw [← h.block k hk]; simp [iterTo, this]⟩
theorem iterTo_size (W : World) (N : Nat) (s : ByteArray) (pos : Nat) : (iterTo W N s pos).heap.size = W.heap.size := by simp [iterTo]

/-- White space, as the package's words have it. -/
def isWs (c : UInt8) : Bool := c.toNat == 32 || c.toNat == 9 || c.toNat == 13 || c.toNat == 10 || c.toNat == 12
def idxA (l : List UInt8) : Int := match l.findIdx? isWs with | some k => k | none => -1

theorem idxA_none {l : List UInt8} (h : l.any isWs = false) : idxA l = -1 := by
  have e : l.findIdx? isWs = none := by rw [List.findIdx?_eq_none_iff]; intro x hx; simpa using (List.any_eq_false.1 h) x hx
  unfold idxA; rw [e]
theorem idxA_hit {s : ByteArray} {k : Nat} (h : k < s.size) (H : ((L s).take k).any isWs = false) (hc : isWs s[k] = true) : idxA (L s) = k := by
  have e : (L s).findIdx? isWs = some k := by
    rw [List.findIdx?_eq_some_iff_getElem]
    refine ⟨by rw [L_len]; exact h, hc, fun j hj => ?_⟩
    have := (List.any_eq_false.1 H) ((L s)[j]'(by rw [L_len]; omega)) (by rw [List.mem_take_iff_getElem]; exact ⟨j, by rw [L_len]; omega, rfl⟩)
    simpa using this
  unfold idxA; rw [e]
theorem ws_succ {s : ByteArray} {k : Nat} (h : k < s.size) (H : ((L s).take k).any isWs = false) (hc : isWs s[k] = false) : ((L s).take (k + 1)).any isWs = false := by
  rw [take_snoc s k h, List.any_append, H]; simp [hc]

set_option maxRecDepth 100000 in
set_option maxHeartbeats 4000000 in
theorem indexAny_any (w : World) (s : ByteArray) (hs : asc s) :
    Calls Tryz.prog 191 #[.string s, .string ⟨#[32, 9, 13, 10, 12]⟩] w fun e w' => e = .returned (.int .i64 (idxA (L s))) ∧ Below w.heap.size w w' := by
  have hsz := hs.2
  have HS := Lib.hid hs.1
  clear hs
  go_enter Tryz.func191, Tryz.ntmps191
  go_wp2_with fail
  have HB0 := Lib.hid (below_alloc w (.stringIter s 0))
  have HH0 := Lib.hid (World.iter_heap w s 0)
  go_loopg [5] s.size (fun n _ wr => ∃ pos : Nat, n = s.size - pos ∧ pos ≤ s.size ∧ wr.heap[w.heap.size]? = some (.stringIter s pos) ∧ Below w.heap.size w wr ∧ ((L s).take pos).any isWs = false)
  case atStart => exact ⟨0, rfl, Nat.zero_le _, HH0.out, HB0.out, rfl⟩
  case round =>
    obtain ⟨pos, rfl, hpos, hN, hb, hany⟩ := hrel
    have HA := Lib.hid hany
    clear hany
    by_cases hlt : pos < s.size
    · have hcl : (s[pos]).toNat < 128 := HS.out _ (by rw [L_get s pos hlt]; exact List.getElem_mem _)
      have hnx := fun ty => run_next_at wr w.heap.size s pos ty hN hlt hcl
      obtain ⟨W1, hW1⟩ : ∃ W1, W1 = iterTo wr w.heap.size s (pos + 1) := ⟨_, rfl⟩
      have hN1 : W1.heap[w.heap.size]? = some (.stringIter s (pos + 1)) := by rw [hW1]; exact iterTo_at hN
      have hb1 : Below w.heap.size w W1 := by rw [hW1]; exact iterTo_below hb (Nat.le_refl _)
      rw [← hW1] at hnx
      have HN1 := Lib.hid hN1
      have HB1 := Lib.hid hb1
      have hc0 : ∀ ty, (Instr.next (.pointer (some ⟨W1.heap.size, 0, none⟩)) true ty).run Tryz.prog (W1.iter ⟨#[32, 9, 13, 10, 12]⟩ 0) = .ok (.tuple #[.bool true, .int .i64 0, .int .i32 32]) (W1.iter ⟨#[32, 9, 13, 10, 12]⟩ 1) := fun ty => run_next_ascii W1 ⟨#[32, 9, 13, 10, 12]⟩ 0 ty (by decide) (by decide)
      have hc1 : ∀ ty, (Instr.next (.pointer (some ⟨W1.heap.size, 0, none⟩)) true ty).run Tryz.prog (W1.iter ⟨#[32, 9, 13, 10, 12]⟩ 1) = .ok (.tuple #[.bool true, .int .i64 1, .int .i32 9]) (W1.iter ⟨#[32, 9, 13, 10, 12]⟩ 2) := fun ty => run_next_ascii W1 ⟨#[32, 9, 13, 10, 12]⟩ 1 ty (by decide) (by decide)
      have hc2 : ∀ ty, (Instr.next (.pointer (some ⟨W1.heap.size, 0, none⟩)) true ty).run Tryz.prog (W1.iter ⟨#[32, 9, 13, 10, 12]⟩ 2) = .ok (.tuple #[.bool true, .int .i64 2, .int .i32 13]) (W1.iter ⟨#[32, 9, 13, 10, 12]⟩ 3) := fun ty => run_next_ascii W1 ⟨#[32, 9, 13, 10, 12]⟩ 2 ty (by decide) (by decide)
      have hc3 : ∀ ty, (Instr.next (.pointer (some ⟨W1.heap.size, 0, none⟩)) true ty).run Tryz.prog (W1.iter ⟨#[32, 9, 13, 10, 12]⟩ 3) = .ok (.tuple #[.bool true, .int .i64 3, .int .i32 10]) (W1.iter ⟨#[32, 9, 13, 10, 12]⟩ 4) := fun ty => run_next_ascii W1 ⟨#[32, 9, 13, 10, 12]⟩ 3 ty (by decide) (by decide)
      have hc4 : ∀ ty, (Instr.next (.pointer (some ⟨W1.heap.size, 0, none⟩)) true ty).run Tryz.prog (W1.iter ⟨#[32, 9, 13, 10, 12]⟩ 4) = .ok (.tuple #[.bool true, .int .i64 4, .int .i32 12]) (W1.iter ⟨#[32, 9, 13, 10, 12]⟩ 5) := fun ty => run_next_ascii W1 ⟨#[32, 9, 13, 10, 12]⟩ 4 ty (by decide) (by decide)
      have hc5 : ∀ ty, (Instr.next (.pointer (some ⟨W1.heap.size, 0, none⟩)) true ty).run Tryz.prog (W1.iter ⟨#[32, 9, 13, 10, 12]⟩ 5) = .ok (.tuple #[.bool false]) (W1.iter ⟨#[32, 9, 13, 10, 12]⟩ 5) := fun ty => run_next_end W1 ⟨#[32, 9, 13, 10, 12]⟩ 5 ty (by decide)
      clear hW1 hN hN1 hb1 hcl
      have hbi : ∀ q, Below w.heap.size w (W1.iter ⟨#[32, 9, 13, 10, 12]⟩ q) := fun q => HB1.out.alloc HB1.out.size _
      have HBI := Lib.hid hbi
      clear hbi hb
      by_cases h0 : (s[pos]).toNat = 32
      · have hw : isWs s[pos] = true := by simp [isWs, h0]
        have e0 : ((s[pos].toNat : Int) == 32) = true := by simp; omega
        have hidx : idxA (L s) = pos := idxA_hit hlt HA.out hw
        have HIDX := Lib.hid hidx
        clear hw hidx h0
        go_wp2_with fail
        refine wp_loop_rounds 6 ?_
        rw [rounds_succ]
        go_wp2_with fail
        go_ret
        exact ⟨ret_int HIDX.out.symm, HBI.out _⟩
      · by_cases h1 : (s[pos]).toNat = 9
        · have hw : isWs s[pos] = true := by simp [isWs, h1]
          have e0 : ((s[pos].toNat : Int) == 32) = false := by simp; omega
          have e1 : ((s[pos].toNat : Int) == 9) = true := by simp; omega
          have hidx : idxA (L s) = pos := idxA_hit hlt HA.out hw
          have HIDX := Lib.hid hidx
          clear hw hidx h0 h1
          go_wp2_with fail
          refine wp_loop_rounds 6 ?_
          rw [rounds_succ]
          go_wp2_with fail
          rw [rounds_succ]
          go_wp2_with fail
          go_ret
          exact ⟨ret_int HIDX.out.symm, HBI.out _⟩
        · by_cases h2 : (s[pos]).toNat = 13
          · have hw : isWs s[pos] = true := by simp [isWs, h2]
            have e0 : ((s[pos].toNat : Int) == 32) = false := by simp; omega
            have e1 : ((s[pos].toNat : Int) == 9) = false := by simp; omega
            have e2 : ((s[pos].toNat : Int) == 13) = true := by simp; omega
            have hidx : idxA (L s) = pos := idxA_hit hlt HA.out hw
            have HIDX := Lib.hid hidx
            clear hw hidx h0 h1 h2
            go_wp2_with fail
            refine wp_loop_rounds 6 ?_
            rw [rounds_succ]
            go_wp2_with fail
            rw [rounds_succ]
            go_wp2_with fail
            rw [rounds_succ]
            go_wp2_with fail
            go_ret
            exact ⟨ret_int HIDX.out.symm, HBI.out _⟩
          · by_cases h3 : (s[pos]).toNat = 10
            · have hw : isWs s[pos] = true := by simp [isWs, h3]
              have e0 : ((s[pos].toNat : Int) == 32) = false := by simp; omega
              have e1 : ((s[pos].toNat : Int) == 9) = false := by simp; omega
              have e2 : ((s[pos].toNat : Int) == 13) = false := by simp; omega
              have e3 : ((s[pos].toNat : Int) == 10) = true := by simp; omega
              have hidx : idxA (L s) = pos := idxA_hit hlt HA.out hw
              have HIDX := Lib.hid hidx
              clear hw hidx h0 h1 h2 h3
              go_wp2_with fail
              refine wp_loop_rounds 6 ?_
              rw [rounds_succ]
              go_wp2_with fail
              rw [rounds_succ]
              go_wp2_with fail
              rw [rounds_succ]
              go_wp2_with fail
              rw [rounds_succ]
              go_wp2_with fail
              go_ret
              exact ⟨ret_int HIDX.out.symm, HBI.out _⟩
            · by_cases h4 : (s[pos]).toNat = 12
              · have hw : isWs s[pos] = true := by simp [isWs, h4]
                have e0 : ((s[pos].toNat : Int) == 32) = false := by simp; omega
                have e1 : ((s[pos].toNat : Int) == 9) = false := by simp; omega
                have e2 : ((s[pos].toNat : Int) == 13) = false := by simp; omega
                have e3 : ((s[pos].toNat : Int) == 10) = false := by simp; omega
                have e4 : ((s[pos].toNat : Int) == 12) = true := by simp; omega
                have hidx : idxA (L s) = pos := idxA_hit hlt HA.out hw
                have HIDX := Lib.hid hidx
                clear hw hidx h0 h1 h2 h3 h4
                go_wp2_with fail
                refine wp_loop_rounds 6 ?_
                rw [rounds_succ]
                go_wp2_with fail
                rw [rounds_succ]
                go_wp2_with fail
                rw [rounds_succ]
                go_wp2_with fail
                rw [rounds_succ]
                go_wp2_with fail
                rw [rounds_succ]
                go_wp2_with fail
                go_ret
                exact ⟨ret_int HIDX.out.symm, HBI.out _⟩
              · have e0 : ((s[pos].toNat : Int) == 32) = false := by simp; omega
                have e1 : ((s[pos].toNat : Int) == 9) = false := by simp; omega
                have e2 : ((s[pos].toNat : Int) == 13) = false := by simp; omega
                have e3 : ((s[pos].toNat : Int) == 10) = false := by simp; omega
                have e4 : ((s[pos].toNat : Int) == 12) = false := by simp; omega
                have hw : isWs s[pos] = false := by simp [isWs, h0, h1, h2, h3, h4]
                have HW := Lib.hid hw
                clear hw h0 h1 h2 h3 h4
                go_wp2_with fail
                refine wp_loop_rounds 6 ?_
                rw [rounds_succ]
                go_wp2_with fail
                rw [rounds_succ]
                go_wp2_with fail
                rw [rounds_succ]
                go_wp2_with fail
                rw [rounds_succ]
                go_wp2_with fail
                rw [rounds_succ]
                go_wp2_with fail
                rw [rounds_succ]
                go_wp2_with fail
                go_roundg (s.size - (pos + 1))
                case measure => omega
                case rel => exact ⟨pos + 1, rfl, by omega, heap_keep ((Below.refl _ _).alloc (Nat.le_refl _) _) HN1.out, HBI.out _, ws_succ hlt HA.out HW.out⟩
    · have hnx := fun ty => run_next_fin wr w.heap.size s pos ty hN hlt
      have hidx : idxA (L s) = -1 := idxA_none (by have h := HA.out; rwa [take_end s pos hlt] at h)
      have HIDX := Lib.hid hidx
      clear hidx hN
      go_wp2_with fail
      go_ret
      exact ⟨ret_int HIDX.out.symm, hb⟩

end Go.Proofs.YteaapgijeehhfaaGreatDoor

namespace Go.Proofs.YteaapgijeehhfaaGreatDoor
open Go.RowKit

def incl (ic : Bool) (val : ByteArray) : Nat → List UInt8 → Bool
  | 0, _ => false
  | k + 1, l => if l = [] then false else match l.findIdx? isWs with
    | none => eqI ic (bs l) val
    | some n => eqI ic (bs (l.take n)) val || incl ic val k (l.drop (n + 1))

theorem asc_sub {s : ByteArray} {l : List UInt8} (h : asc s) (hl : ∀ c ∈ l, c ∈ L s) (hn : l.length ≤ s.size) : asc (bs l) :=
  ⟨fun c hc => h.1 c (hl c hc), by rw [bs_size]; have := h.2; omega⟩

set_option maxRecDepth 100000 in
set_option maxHeartbeats 4000000 in
theorem include_any (w : World) (ic : Bool) (val s : ByteArray) (hv : asc val) (hs : asc s) :
    Calls Tryz.prog 190 #[.string val, .string s, .bool ic] w fun e w' => e = .returned (.bool (incl ic val (s.size + 1) (L s))) ∧ Below w.heap.size w w' := by
  have HV := Lib.hid hv
  have HS := Lib.hid hs
  clear hv hs
  obtain ⟨R, hR⟩ : ∃ R, incl ic val (s.size + 1) (L s) = R := ⟨_, rfl⟩
  rw [hR]
  have HRR := Lib.hid hR
  clear hR
  go_enter Tryz.func190, Tryz.ntmps190
  go_wp2_with fail
  go_loopg [1] (s.size + 1) (fun n v wr => ∃ r, v = .string r ∧ asc r ∧ r.size < n ∧ incl ic val n (L r) = R ∧ Below w.heap.size w wr)
  case atStart => exact ⟨s, rfl, HS.out, by omega, HRR.out, Below.refl _ _⟩
  case round =>
    obtain ⟨r, rfl, hra, hrn, hin, hb⟩ := hrel
    obtain ⟨k, rfl⟩ : ∃ k, gk = k + 1 := ⟨gk - 1, by omega⟩
    have hsz := hra.2
    by_cases h0 : L r = []
    · have he : r.toList.isEmpty = true := by rw [L_toList, h0]; rfl
      simp only [incl, h0, if_true] at hin
      have HIN := Lib.hid hin
      clear hin h0
      go_wp2_with fail
      go_ret
      exact ⟨ret_bool HIN.out, hb⟩
    · have he : r.toList.isEmpty = false := by rw [L_toList]; cases h : L r with | nil => exact absurd h h0 | cons a l => rfl
      simp only [incl, h0, if_false] at hin
      have hcall := indexAny_any wr r hra
      have HRA := Lib.hid hra
      cases hf : (L r).findIdx? isWs with
      | none =>
        rw [hf] at hin
        simp only [bs_L] at hin
        have hidx : idxA (L r) = -1 := by unfold idxA; rw [hf]
        rw [hidx] at hcall
        have HC := Lib.hid hcall
        have HIN := Lib.hid hin
        clear hcall hin hf hidx h0 hra
        go_wp2_with (first | (go_at_call 191; refine HC.out.mono ?_; rintro e w2 ⟨rfl, hb2⟩; have hb3 := below_step hb hb2; have HB3 := Lib.hid hb3; clear hb2 hb3) | (go_at_call 192; refine (eqI_any _ ic r val HRA.out HV.out).mono ?_; rintro e w3 ⟨rfl, rfl⟩))
        go_ret
        exact ⟨ret_bool HIN.out, HB3.out⟩
      | some n =>
        rw [hf] at hin
        have hidx : idxA (L r) = n := by unfold idxA; rw [hf]
        rw [hidx] at hcall
        have hn : n < r.size := by have := (List.findIdx?_eq_some_iff_getElem.1 hf).1; rwa [L_len] at this
        have en : ((n : Int) == -1) = false := by simp
        have hx : r.extract 0 n = bs ((L r).take n) := L_inj (by rw [L_extract, L_bs]; simp)
        have hax : asc (bs ((L r).take n)) := asc_sub hra (fun c hc => List.mem_of_mem_take hc) (by simp; omega)
        have hay : asc (bs ((L r).drop (n + 1))) := asc_sub hra (fun c hc => List.mem_of_mem_drop hc) (by rw [List.length_drop, L_len]; omega)
        have hy : r.extract (n + 1) r.size = bs ((L r).drop (n + 1)) := L_inj (by rw [L_extract, L_bs, take_end r r.size (by omega)])
        obtain ⟨b1, hb1⟩ : ∃ b1, eqI ic (bs ((L r).take n)) val = b1 := ⟨_, rfl⟩
        have heq : ∀ w', Calls Tryz.prog 192 #[.string (r.extract 0 n), .string val, .bool ic] w' fun e w'' => e = .returned (.bool b1) ∧ w'' = w' := fun w' => by rw [hx, ← hb1]; exact eqI_any w' ic _ val hax HV.out
        simp only [hb1] at hin
        have HEQ := Lib.hid heq
        have HY := Lib.hid hy
        have HAY := Lib.hid hay
        have HC := Lib.hid hcall
        have HIN := Lib.hid hin
        clear hcall hin hf hidx h0 hra hx hax hy hay hb1 heq
        cases b1
        · go_wp2_with (first | (go_at_call 191; refine HC.out.mono ?_; rintro e w2 ⟨rfl, hb2⟩; have hb3 := below_step hb hb2; have HB3 := Lib.hid hb3; clear hb2 hb3) | (go_at_call 192; refine (HEQ.out _).mono ?_; rintro e w3 ⟨rfl, rfl⟩))
          go_roundg k
          case measure => omega
          case rel => exact ⟨bs ((L r).drop (n + 1)), by rw [← HY.out], HAY.out, by rw [bs_size, List.length_drop, L_len]; omega, by rw [L_bs]; simpa using HIN.out, HB3.out⟩
        · go_wp2_with (first | (go_at_call 191; refine HC.out.mono ?_; rintro e w2 ⟨rfl, hb2⟩; have hb3 := below_step hb hb2; have HB3 := Lib.hid hb3; clear hb2 hb3) | (go_at_call 192; refine (HEQ.out _).mono ?_; rintro e w3 ⟨rfl, rfl⟩))
          go_ret
          exact ⟨ret_bool (by simpa using HIN.out), HB3.out⟩

end Go.Proofs.YteaapgijeehhfaaGreatDoor

namespace Go.Proofs.YteaapgijeehhfaaGreatDoor
open Go.RowKit

set_option maxRecDepth 100000 in
set_option maxHeartbeats 2000000 in
theorem classFun (w : World) (N : Nat) (name : ByteArray) (hn : asc name) (h : w.cell? ⟨N, 0, none⟩ = some (.string name)) : FunRep w 189 #[.pointer (some ⟨N, 0, none⟩)] (fun s => incl false name (s.size + 1) (L s)) where
  enters := fun _ _ => rfl
  calls := by
    intro s w' hs hb
    have h0 := cell_keep hb h
    have HC := Lib.hid (include_any w' false name s hn hs)
    clear h hb hn hs
    simp only [List.append_toArray, List.cons_append, List.nil_append]
    go_enter Tryz.func189, Tryz.ntmps189
    go_wp2_with (go_at_call 190; refine HC.out.mono ?_; rintro e w2 ⟨rfl, hb2⟩)
    go_ret
    exact ⟨rfl, hb2⟩

def mClass (t : List Nk) (name : ByteArray) (i : Nat) : Bool := isEl t i && attrAny (atr t i) ⟨#[99, 108, 97, 115, 115]⟩ (fun s => incl false name (s.size + 1) (L s))

set_option maxRecDepth 100000 in
set_option maxHeartbeats 4000000 in
theorem class_any (w : World) (bl : Nat → Nat) (t : List Nk) (name : ByteArray) (hn : asc name) (i : Nat) (hi : i < t.length) (ht : TreeAt w bl t) :
    Calls Tryz.prog 185 #[.agg #[.string name], .pointer (some ⟨bl i, 0, none⟩)] w fun e w' => e = .returned (.bool (mClass t name i)) ∧ Below w.heap.size w w' := by
  have hba := below_alloc w (.cells #[.string name] 161)
  have hmf : ∀ (fn : Fn) (first cap : Array Value) (w : World), (Instr.makeFunc fn first cap).run Tryz.prog w = .ok (.func fn first cap) w := fun _ _ _ _ => rfl
  have hf := classFun (w.alloc (.cells #[.string name] 161)) w.heap.size name hn (by rw [cell_of_heap (heap_alloc_new w _)]; rfl)
  have HC := Lib.hid ((ht.keep hba).attr hi 189 _ ⟨#[99, 108, 97, 115, 115]⟩ _ hf)
  have HB := Lib.hid hba
  clear ht hba hf
  unfold mClass
  go_enter Tryz.func185, Tryz.ntmps185
  go_wp2_with (go_at_call 179; refine HC.out.mono ?_; rintro e w2 ⟨rfl, hb2⟩)
  go_ret
  exact ⟨rfl, below_step HB.out hb2⟩

end Go.Proofs.YteaapgijeehhfaaGreatDoor
