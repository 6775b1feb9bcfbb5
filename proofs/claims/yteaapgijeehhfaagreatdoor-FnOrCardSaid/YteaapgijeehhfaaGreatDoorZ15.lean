/- The parser reads one simple selector as it is written. -/
/- What the parser's loops need: the row of what has been read, and the parser's state, behind each other. -/
/- The parser reads simple selectors, one behind the other. -/
import Derived.Test.YteaapgijeehhfaaGreatDoorZ03
import Derived.Test.YteaapgijeehhfaaGreatDoorZ05
import Derived.Test.YteaapgijeehhfaaGreatDoorZ06
import Derived.Test.YteaapgijeehhfaaGreatDoorZ07
import Derived.Test.YteaapgijeehhfaaGreatDoorZ14
import Derived.Deep.CutRange
import Derived.Deep.CutBlock
import Derived.Deep.LoopGhost
namespace Go.Proofs.YteaapgijeehhfaaGreatDoor
open Go.RowKit

theorem nameL_iff {l : List UInt8} (h : nameL l = true) : l.all nch = true ∧ headSmall l = true ∧ l.length ≤ 12 := by
  simp only [nameL, Bool.and_eq_true, decide_eq_true_eq] at h; exact ⟨h.1.1, h.1.2, h.2⟩
theorem valueL_iff {l : List UInt8} (h : valueL l = true) : l.all vch = true ∧ l ≠ [] ∧ l.length ≤ 40 := by
  simp only [valueL, Bool.and_eq_true, decide_eq_true_eq] at h
  refine ⟨h.1.1, ?_, h.2⟩
  intro e; subst e; simp [blankL] at h

/-- The cells of an attribute's selector. -/
def atCells (s : Simple) : Array Value :=
  if s.kind = 4 then #[.string s.name, .string ⟨#[]⟩, .string ⟨#[]⟩, .bool false] else #[.string s.name, .string s.value, .string (bs (opL s.kind)), .bool s.fold]

theorem vSm_at (s : Simple) (gv : Value) (h : s.kind = 4 ∨ (5 ≤ s.kind ∧ s.kind ≤ 10) ∨ s.kind = 16) : vSm s gv = .iface 165 (.agg (atCells s)) := by
  unfold vSm atCells
  repeat' split
  all_goals first | rfl | omega

theorem parseAttr_all (wg : Group → List UInt8) (og : Group → Prop) (q : Simple) (w : World) (bp : Nat) (s : ByteArray) (i d : Nat) (r : List UInt8) (hp : PS w bp s i d) (ha : At s i (wSm wg q ++ r)) (hs : s.size ≤ 140737488351232)
    (hok : okSm og q) (h : q.kind = 4 ∨ (5 ≤ q.kind ∧ q.kind ≤ 10) ∨ q.kind = 16) :
    Calls Tryz.prog 82 #[.pointer (some ⟨bp, 0, none⟩)] w (PPost w bp s (i + (wSm wg q).length) d (.tuple #[.agg (atCells q), .nilIface])) := by
  obtain ⟨hn1, hn2, hn3⟩ := nameL_iff (hok.name (by omega) (by omega) (by omega) (by omega) (by omega) (by omega))
  have hnm : bs (L q.name) = q.name := bs_L _
  have hvm : bs (L q.value) = q.value := bs_L _
  by_cases h4 : q.kind = 4
  · have e : wSm wg q = 91 :: (L q.name ++ [93]) := by simp [wSm, h4]
    have e2 : atCells q = #[.string q.name, .string ⟨#[]⟩, .string ⟨#[]⟩, .bool false] := by simp [atCells, h4]
    rw [e] at ha ⊢
    rw [e2, ← hnm]
    have := parseHas_any w bp s i d (L q.name) r hp (by simpa using ha) hs hn1 hn2
    rw [L_bs]
    rw [show i + (91 :: (L q.name ++ [93])).length = i + 1 + (L q.name).length + 1 by simp; omega]
    exact this
  · obtain ⟨hv1, hv2, _⟩ := valueL_iff (hok.value (by omega))
    have e : wSm wg q = 91 :: (L q.name ++ (opL q.kind ++ (34 :: (L q.value ++ (34 :: ((if q.fold then [32, 105] else []) ++ [93])))))) := by
      have h1 : q.kind ≠ 0 := by omega
      have h2 : q.kind ≠ 1 := by omega
      have h3 : q.kind ≠ 2 := by omega
      have h5 : q.kind ≠ 3 := by omega
      have h6 : q.kind ≠ 11 := by omega
      have h7 : q.kind ≠ 12 := by omega
      have h8 : q.kind ≠ 13 := by omega
      have h9 : q.kind ≠ 14 := by omega
      have h10 : q.kind ≠ 15 := by omega
      simp [wSm, h1, h2, h3, h4, h5, h6, h7, h8, h9, h10]
    have e2 : atCells q = #[.string q.name, .string q.value, .string (bs (opL q.kind)), .bool q.fold] := by simp [atCells, h4]
    rw [e] at ha ⊢
    rw [e2, ← hnm, ← hvm, L_bs, L_bs]
    have hk : q.kind = 5 ∨ q.kind = 6 ∨ q.kind = 7 ∨ q.kind = 8 ∨ q.kind = 9 ∨ q.kind = 10 ∨ q.kind = 16 := by omega
    cases hf : q.fold
    · rw [hf] at ha
      simp only [Bool.false_eq_true, if_false, List.nil_append] at ha ⊢
      rcases hk with hk | hk | hk | hk | hk | hk | hk
      · have e3 : opL q.kind = [61] := by rw [hk]; rfl
        rw [e3] at ha ⊢
        have := parseAttr_eq w bp s i d (L q.name) (L q.value) r hp (by simpa using ha) hs hn1 hn2 hv1 hv2
        simp only [List.length_cons, List.length_append, List.length_nil] at this ⊢
        rw [show ∀ m, m = i + 1 + (L q.name).length + 1 + 1 + (L q.value).length + 1 + 1 → PPost w bp s m = PPost w bp s (i + 1 + (L q.name).length + 1 + 1 + (L q.value).length + 1 + 1) from fun m hm => by rw [hm]]
        · exact this
        · omega
      · have e3 : opL q.kind = [126, 61] := by rw [hk]; rfl
        rw [e3] at ha ⊢
        have := parseAttr_wd w bp s i d (L q.name) (L q.value) r hp (by simpa using ha) hs hn1 hn2 hv1 hv2
        simp only [List.length_cons, List.length_append, List.length_nil] at this ⊢
        rw [show ∀ m, m = i + 1 + (L q.name).length + 2 + 1 + (L q.value).length + 1 + 1 → PPost w bp s m = PPost w bp s (i + 1 + (L q.name).length + 2 + 1 + (L q.value).length + 1 + 1) from fun m hm => by rw [hm]]
        · exact this
        · omega
      · have e3 : opL q.kind = [124, 61] := by rw [hk]; rfl
        rw [e3] at ha ⊢
        have := parseAttr_ds w bp s i d (L q.name) (L q.value) r hp (by simpa using ha) hs hn1 hn2 hv1 hv2
        simp only [List.length_cons, List.length_append, List.length_nil] at this ⊢
        rw [show ∀ m, m = i + 1 + (L q.name).length + 2 + 1 + (L q.value).length + 1 + 1 → PPost w bp s m = PPost w bp s (i + 1 + (L q.name).length + 2 + 1 + (L q.value).length + 1 + 1) from fun m hm => by rw [hm]]
        · exact this
        · omega
      · have e3 : opL q.kind = [94, 61] := by rw [hk]; rfl
        rw [e3] at ha ⊢
        have := parseAttr_pf w bp s i d (L q.name) (L q.value) r hp (by simpa using ha) hs hn1 hn2 hv1 hv2
        simp only [List.length_cons, List.length_append, List.length_nil] at this ⊢
        rw [show ∀ m, m = i + 1 + (L q.name).length + 2 + 1 + (L q.value).length + 1 + 1 → PPost w bp s m = PPost w bp s (i + 1 + (L q.name).length + 2 + 1 + (L q.value).length + 1 + 1) from fun m hm => by rw [hm]]
        · exact this
        · omega
      · have e3 : opL q.kind = [36, 61] := by rw [hk]; rfl
        rw [e3] at ha ⊢
        have := parseAttr_sf w bp s i d (L q.name) (L q.value) r hp (by simpa using ha) hs hn1 hn2 hv1 hv2
        simp only [List.length_cons, List.length_append, List.length_nil] at this ⊢
        rw [show ∀ m, m = i + 1 + (L q.name).length + 2 + 1 + (L q.value).length + 1 + 1 → PPost w bp s m = PPost w bp s (i + 1 + (L q.name).length + 2 + 1 + (L q.value).length + 1 + 1) from fun m hm => by rw [hm]]
        · exact this
        · omega
      · have e3 : opL q.kind = [42, 61] := by rw [hk]; rfl
        rw [e3] at ha ⊢
        have := parseAttr_pt w bp s i d (L q.name) (L q.value) r hp (by simpa using ha) hs hn1 hn2 hv1 hv2
        simp only [List.length_cons, List.length_append, List.length_nil] at this ⊢
        rw [show ∀ m, m = i + 1 + (L q.name).length + 2 + 1 + (L q.value).length + 1 + 1 → PPost w bp s m = PPost w bp s (i + 1 + (L q.name).length + 2 + 1 + (L q.value).length + 1 + 1) from fun m hm => by rw [hm]]
        · exact this
        · omega
      · have e3 : opL q.kind = [33, 61] := by rw [hk]; rfl
        rw [e3] at ha ⊢
        have := parseAttr_ne w bp s i d (L q.name) (L q.value) r hp (by simpa using ha) hs hn1 hn2 hv1 hv2
        simp only [List.length_cons, List.length_append, List.length_nil] at this ⊢
        rw [show ∀ m, m = i + 1 + (L q.name).length + 2 + 1 + (L q.value).length + 1 + 1 → PPost w bp s m = PPost w bp s (i + 1 + (L q.name).length + 2 + 1 + (L q.value).length + 1 + 1) from fun m hm => by rw [hm]]
        · exact this
        · omega
    · rw [hf] at ha
      simp only [if_true] at ha ⊢
      rcases hk with hk | hk | hk | hk | hk | hk | hk
      · have e3 : opL q.kind = [61] := by rw [hk]; rfl
        rw [e3] at ha ⊢
        have := parseAttr_eq_i w bp s i d (L q.name) (L q.value) r hp (by simpa using ha) hs hn1 hn2 hv1 hv2
        simp only [List.length_cons, List.length_append, List.length_nil] at this ⊢
        rw [show ∀ m, m = i + 1 + (L q.name).length + 1 + 1 + (L q.value).length + 1 + 3 → PPost w bp s m = PPost w bp s (i + 1 + (L q.name).length + 1 + 1 + (L q.value).length + 1 + 3) from fun m hm => by rw [hm]]
        · exact this
        · omega
      · have e3 : opL q.kind = [126, 61] := by rw [hk]; rfl
        rw [e3] at ha ⊢
        have := parseAttr_wd_i w bp s i d (L q.name) (L q.value) r hp (by simpa using ha) hs hn1 hn2 hv1 hv2
        simp only [List.length_cons, List.length_append, List.length_nil] at this ⊢
        rw [show ∀ m, m = i + 1 + (L q.name).length + 2 + 1 + (L q.value).length + 1 + 3 → PPost w bp s m = PPost w bp s (i + 1 + (L q.name).length + 2 + 1 + (L q.value).length + 1 + 3) from fun m hm => by rw [hm]]
        · exact this
        · omega
      · have e3 : opL q.kind = [124, 61] := by rw [hk]; rfl
        rw [e3] at ha ⊢
        have := parseAttr_ds_i w bp s i d (L q.name) (L q.value) r hp (by simpa using ha) hs hn1 hn2 hv1 hv2
        simp only [List.length_cons, List.length_append, List.length_nil] at this ⊢
        rw [show ∀ m, m = i + 1 + (L q.name).length + 2 + 1 + (L q.value).length + 1 + 3 → PPost w bp s m = PPost w bp s (i + 1 + (L q.name).length + 2 + 1 + (L q.value).length + 1 + 3) from fun m hm => by rw [hm]]
        · exact this
        · omega
      · have e3 : opL q.kind = [94, 61] := by rw [hk]; rfl
        rw [e3] at ha ⊢
        have := parseAttr_pf_i w bp s i d (L q.name) (L q.value) r hp (by simpa using ha) hs hn1 hn2 hv1 hv2
        simp only [List.length_cons, List.length_append, List.length_nil] at this ⊢
        rw [show ∀ m, m = i + 1 + (L q.name).length + 2 + 1 + (L q.value).length + 1 + 3 → PPost w bp s m = PPost w bp s (i + 1 + (L q.name).length + 2 + 1 + (L q.value).length + 1 + 3) from fun m hm => by rw [hm]]
        · exact this
        · omega
      · have e3 : opL q.kind = [36, 61] := by rw [hk]; rfl
        rw [e3] at ha ⊢
        have := parseAttr_sf_i w bp s i d (L q.name) (L q.value) r hp (by simpa using ha) hs hn1 hn2 hv1 hv2
        simp only [List.length_cons, List.length_append, List.length_nil] at this ⊢
        rw [show ∀ m, m = i + 1 + (L q.name).length + 2 + 1 + (L q.value).length + 1 + 3 → PPost w bp s m = PPost w bp s (i + 1 + (L q.name).length + 2 + 1 + (L q.value).length + 1 + 3) from fun m hm => by rw [hm]]
        · exact this
        · omega
      · have e3 : opL q.kind = [42, 61] := by rw [hk]; rfl
        rw [e3] at ha ⊢
        have := parseAttr_pt_i w bp s i d (L q.name) (L q.value) r hp (by simpa using ha) hs hn1 hn2 hv1 hv2
        simp only [List.length_cons, List.length_append, List.length_nil] at this ⊢
        rw [show ∀ m, m = i + 1 + (L q.name).length + 2 + 1 + (L q.value).length + 1 + 3 → PPost w bp s m = PPost w bp s (i + 1 + (L q.name).length + 2 + 1 + (L q.value).length + 1 + 3) from fun m hm => by rw [hm]]
        · exact this
        · omega
      · exact absurd (hok.fold hf) (by omega)

theorem vSm_ps (s : Simple) (gv : Value) : ∃ T x, vSm s gv = .iface T x := by
  unfold vSm; repeat' split
  all_goals exact ⟨_, _, rfl⟩

/-- What stands ahead of ')' within. -/
def noSkip (l : List UInt8) : Prop := ∃ c u, l = c :: u ∧ c.toNat ≠ 32 ∧ c.toNat ≠ 9 ∧ c.toNat ≠ 10 ∧ c.toNat ≠ 12 ∧ c.toNat ≠ 13 ∧ c.toNat ≠ 47

/-- What reading a pseudo-class leaves. -/
def PsPost (D : Nat) (q : Simple) (w : World) (bp : Nat) (s : ByteArray) (j d : Nat) (e : Ending) (w' : World) : Prop :=
  ∃ gv, e = .returned (.tuple #[vSm q gv, .string ⟨#[]⟩, .nilIface]) ∧ (q.kind = 14 ∨ q.kind = 15 → RS D (fun k => w.heap.size ≤ k) w' gv q.subs) ∧ PS w' bp s j d ∧ Mv bp w w'

theorem parsePs_all (D : Nat) (wg : Group → List UInt8) (og : Group → Prop) (q : Simple) (w : World) (bp : Nat) (s : ByteArray) (i d : Nat) (r : List UInt8) (hp : PS w bp s i d) (ha : At s i (wSm wg q ++ r)) (hs : s.size ≤ 140737488351232)
    (hok : okSm og q) (h : 11 ≤ q.kind ∧ q.kind ≤ 15) (hr : headP stopC r)
    (hw : og q.subs → ∀ r, noSkip (wg q.subs ++ (41 :: r)))
    (hG : og q.subs → ∀ W j r, PS W bp s j d → At s j (wg q.subs ++ (41 :: r)) → Calls Tryz.prog 52 #[.pointer (some ⟨bp, 0, none⟩)] W (GPost D q.subs W bp s (j + (wg q.subs).length) d)) :
    Calls Tryz.prog 83 #[.pointer (some ⟨bp, 0, none⟩)] w (PsPost D q w bp s (i + (wSm wg q).length) d) := by
  have hk : q.kind = 11 ∨ q.kind = 12 ∨ q.kind = 13 ∨ q.kind = 14 ∨ q.kind = 15 := by omega
  have h0 : ¬ q.kind = 0 := by omega
  have h1 : ¬ q.kind = 1 := by omega
  have h2 : ¬ q.kind = 2 := by omega
  have h3 : ¬ q.kind = 3 := by omega
  have h4 : ¬ q.kind = 4 := by omega
  rcases hk with hk | hk | hk | hk | hk
  · obtain ⟨ha1, ha2, hb1, hb2⟩ := hok.nth hk
    have e : wSm wg q = nthW q.a q.b q.last q.ofType := by simp [wSm, hk]
    have ev : ∀ gv, vSm q gv = .iface 185 (.agg #[.int .i64 q.a, .int .i64 q.b, .bool q.last, .bool q.ofType]) := by intro gv; simp [vSm, hk]
    rw [e] at ha ⊢
    have key : ∀ v j, v = Value.iface 185 (.agg #[.int .i64 q.a, .int .i64 q.b, .bool q.last, .bool q.ofType]) → j = i + (nthW q.a q.b q.last q.ofType).length →
        Calls Tryz.prog 83 #[.pointer (some ⟨bp, 0, none⟩)] w (PPost w bp s j d (.tuple #[v, .string ⟨#[]⟩, .nilIface])) →
        Calls Tryz.prog 83 #[.pointer (some ⟨bp, 0, none⟩)] w (PsPost D q w bp s (i + (nthW q.a q.b q.last q.ofType).length) d) := by
      intro v j hv hj hc
      subst hj
      refine hc.mono ?_
      rintro e w' ⟨rfl, hp2, hm2⟩
      exact ⟨.nilIface, by rw [ev, hv], fun h => by omega, hp2, hm2⟩
    by_cases h01 : q.a = 0 ∧ q.b = 1
    · have e2 : nthW q.a q.b q.last q.ofType = 58 :: (endL q.last ++ typeL q.ofType) := by simp [nthW, h01]
      rw [e2] at ha key ⊢
      cases hl : q.last <;> cases ht : q.ofType <;> rw [hl, ht] at ha key
      · exact key _ _ (by rw [h01.1, h01.2]) rfl (ps_fc w bp s i d r hp ha hs hr)
      · exact key _ _ (by rw [h01.1, h01.2]) rfl (ps_ft w bp s i d r hp ha hs hr)
      · exact key _ _ (by rw [h01.1, h01.2]) rfl (ps_lc w bp s i d r hp ha hs hr)
      · exact key _ _ (by rw [h01.1, h01.2]) rfl (ps_lt w bp s i d r hp ha hs hr)
    · have e2 : nthW q.a q.b q.last q.ofType = 58 :: (nthL q.last ++ typeL q.ofType ++ (40 :: (countL q.a q.b ++ [41]))) := by simp [nthW, h01]
      rw [e2] at ha key ⊢
      cases hl : q.last <;> cases ht : q.ofType <;> rw [hl, ht] at ha key
      · exact key _ _ rfl (by simp [nthL, typeL]; omega) (pn_nc w bp s i d q.a q.b r hp (by simpa [nthL, typeL] using ha) hs ⟨ha1, ha2, hb1, hb2⟩)
      · exact key _ _ rfl (by simp [nthL, typeL]; omega) (pn_nt w bp s i d q.a q.b r hp (by simpa [nthL, typeL] using ha) hs ⟨ha1, ha2, hb1, hb2⟩)
      · exact key _ _ rfl (by simp [nthL, typeL]; omega) (pn_nlc w bp s i d q.a q.b r hp (by simpa [nthL, typeL] using ha) hs ⟨ha1, ha2, hb1, hb2⟩)
      · exact key _ _ rfl (by simp [nthL, typeL]; omega) (pn_nlt w bp s i d q.a q.b r hp (by simpa [nthL, typeL] using ha) hs ⟨ha1, ha2, hb1, hb2⟩)
  · have e : wSm wg q = [58, 101, 109, 112, 116, 121] := by simp [wSm, hk]
    have ev : ∀ gv, vSm q gv = .iface 190 (.agg #[]) := by intro gv; simp [vSm, hk]
    rw [e] at ha ⊢
    refine (ps_empty w bp s i d r hp ha hs hr).mono ?_
    rintro e w' ⟨rfl, hp2, hm2⟩
    exact ⟨.nilIface, by rw [ev], fun h => by omega, hp2, hm2⟩
  · have e : wSm wg q = [58, 114, 111, 111, 116] := by simp [wSm, hk]
    have ev : ∀ gv, vSm q gv = .iface 191 (.agg #[]) := by intro gv; simp [vSm, hk]
    rw [e] at ha ⊢
    refine (ps_root w bp s i d r hp ha hs hr).mono ?_
    rintro e w' ⟨rfl, hp2, hm2⟩
    exact ⟨.nilIface, by rw [ev], fun h => by omega, hp2, hm2⟩
  · have hog := hok.subs (.inl hk)
    have e : wSm wg q = [58, 110, 111, 116, 40] ++ (wg q.subs ++ [41]) := by simp [wSm, hk]
    have ev : ∀ gv, vSm q gv = .iface 177 (.agg #[.string ⟨#[110, 111, 116]⟩, gv]) := by intro gv; simp [vSm, hk]
    rw [e] at ha ⊢
    have ha' : At s i (58 :: ([110, 111, 116] ++ (40 :: (wg q.subs ++ (41 :: r))))) := by simpa using ha
    have hat : At s (i + 5) (wg q.subs ++ (41 :: r)) := by
      have := (ha'.next.skip (l := [110, 111, 116])).next
      simpa using this
    refine (pr_not D q.subs w bp s i d (wg q.subs) r hp ha' hs (hw hog r) (fun W hW => hG hog W _ r hW hat)).mono ?_
    rintro e w' ⟨v, rfl, hv, hp2, hm2⟩
    refine ⟨v, by rw [ev], fun _ => hv, ?_, hm2⟩
    have hj : ∀ m, m = i + 5 + (wg q.subs).length + 1 → PS w' bp s m d := fun m hm => by rw [hm]; exact hp2
    exact hj _ (by simp; omega)
  · have hog := hok.subs (.inr hk)
    have e : wSm wg q = [58, 104, 97, 115, 40] ++ (wg q.subs ++ [41]) := by simp [wSm, hk]
    have ev : ∀ gv, vSm q gv = .iface 177 (.agg #[.string ⟨#[104, 97, 115]⟩, gv]) := by intro gv; simp [vSm, hk]
    rw [e] at ha ⊢
    have ha' : At s i (58 :: ([104, 97, 115] ++ (40 :: (wg q.subs ++ (41 :: r))))) := by simpa using ha
    have hat : At s (i + 5) (wg q.subs ++ (41 :: r)) := by
      have := (ha'.next.skip (l := [104, 97, 115])).next
      simpa using this
    refine (pr_has D q.subs w bp s i d (wg q.subs) r hp ha' hs (hw hog r) (fun W hW => hG hog W _ r hW hat)).mono ?_
    rintro e w' ⟨v, rfl, hv, hp2, hm2⟩
    refine ⟨v, by rw [ev], fun _ => hv, ?_, hm2⟩
    have hj : ∀ m, m = i + 5 + (wg q.subs).length + 1 → PS w' bp s m d := fun m hm => by rw [hm]; exact hp2
    exact hj _ (by simp; omega)

end Go.Proofs.YteaapgijeehhfaaGreatDoor

namespace Go.Proofs.YteaapgijeehhfaaGreatDoor
open Go.RowKit

theorem info119 : (Tryz.prog.info? 119).map (fun i => (i.zero, i.size, i.bytes)) = some (some .nilIface, 1, 16) := by kernel_rfl

theorem KeepX.drewN (X : Nat → Prop) (w : World) (n : Nat) : KeepX X w (w.drewN n) := fun _ _ _ => rfl
theorem Mv.grown {bp : Nat} {a b c : World} {row : Option Nat} (h : Mv bp a b) (hg : b.grownBy c row) (hr : ∀ k, row = some k → a.heap.size ≤ k) : Mv bp a c :=
  ⟨hg.os.trans h.os, hg.tape.trans h.tape, hg.output.trans h.output, Nat.le_trans h.size hg.size, fun k hk hne => (hg.block k (Nat.lt_of_lt_of_le hk h.size) (fun e => by have := hr k e.symm; omega)).trans (h.block k hk hne)⟩
theorem PS.grown {w w1 : World} {bp : Nat} {s : ByteArray} {i d : Nat} {row : Option Nat} (h : PS w bp s i d) (hg : w.grownBy w1 row) (hne : row ≠ some bp) : PS w1 bp s i d := by
  unfold PS; rw [hg.block bp h.lt (fun e => hne e.symm)]; exact h
theorem St.alloc {bp d : Nat} {s : ByteArray} {w0 w : World} {i : Nat} (h : St bp s d w0 w i) (o : Obj) : St bp s d w0 (w.alloc o) i := ⟨h.ps.alloc o, h.mv.alloc o⟩
theorem St.grown {bp d : Nat} {s : ByteArray} {w0 w w1 : World} {i : Nat} {row : Option Nat} (h : St bp s d w0 w i) (hg : w.grownBy w1 row) (hbp : bp < w0.heap.size) (hr : ∀ k, row = some k → w0.heap.size ≤ k) : St bp s d w0 w1 i :=
  ⟨h.ps.grown hg (fun e => by have := hr bp e; omega), h.mv.grown hg hr⟩
theorem OwnRep.mv {α : Type} {B : Nat} {e : TypeId} {sz bt : Nat} {E : (Nat → Prop) → World → List Value → α → Prop} (hE : ElemRep E) {w w' : World} {v : Value} {l : List α} {bp : Nat}
    (h : OwnRep B e sz bt E w v l) (hm : Mv bp w w') (hbp : bp < B) : OwnRep B e sz bt E w' v l := h.keep hE (fun k hk (hx : B ≤ k) => hm.block k hk (by omega)) hm.size

/-- How long a slice is. -/
def sliceLen (v : Value) : Nat := match v with | .slice _ n _ => n | _ => 0

theorem wParts_cons (wg : Group → List UInt8) (q : Simple) (l : List Simple) : wParts wg (q :: l) = wSm wg q ++ wParts wg l := by simp [wParts]
theorem wParts_append (wg : Group → List UInt8) (a b : List Simple) : wParts wg (a ++ b) = wParts wg a ++ wParts wg b := by simp [wParts]
theorem wParts_snoc (wg : Group → List UInt8) (q : Simple) (l : List Simple) : wParts wg (l ++ [q]) = wParts wg l ++ wSm wg q := by simp [wParts]

theorem wSm_0 {wg : Group → List UInt8} {q : Simple} (h : q.kind = 0) : wSm wg q = L q.name := by simp [wSm, h]
theorem wSm_1 {wg : Group → List UInt8} {q : Simple} (h : q.kind = 1) : wSm wg q = [42] := by simp [wSm, h]
theorem wSm_2 {wg : Group → List UInt8} {q : Simple} (h : q.kind = 2) : wSm wg q = 35 :: L q.name := by simp [wSm, h]
theorem wSm_3 {wg : Group → List UInt8} {q : Simple} (h : q.kind = 3) : wSm wg q = 46 :: L q.name := by simp [wSm, h]
theorem wSm_at {wg : Group → List UInt8} {q : Simple} (h : q.kind = 4 ∨ (5 ≤ q.kind ∧ q.kind ≤ 10) ∨ q.kind = 16) : ∃ t, wSm wg q = 91 :: t := by
  by_cases h4 : q.kind = 4
  · exact ⟨L q.name ++ [93], by simp [wSm, h4]⟩
  · have h1 : q.kind ≠ 0 := by omega
    have h2 : q.kind ≠ 1 := by omega
    have h3 : q.kind ≠ 2 := by omega
    have h5 : q.kind ≠ 3 := by omega
    have h6 : q.kind ≠ 11 := by omega
    have h7 : q.kind ≠ 12 := by omega
    have h8 : q.kind ≠ 13 := by omega
    have h9 : q.kind ≠ 14 := by omega
    have h10 : q.kind ≠ 15 := by omega
    refine ⟨L q.name ++ (opL q.kind ++ (34 :: (L q.value ++ (34 :: ((if q.fold then [32, 105] else []) ++ [93]))))), ?_⟩
    simp [wSm, h1, h2, h3, h4, h5, h6, h7, h8, h9, h10]
theorem wSm_ps {wg : Group → List UInt8} {q : Simple} (h : 11 ≤ q.kind ∧ q.kind ≤ 15) : ∃ t, wSm wg q = 58 :: t := by
  have hk : q.kind = 11 ∨ q.kind = 12 ∨ q.kind = 13 ∨ q.kind = 14 ∨ q.kind = 15 := by omega
  rcases hk with hk | hk | hk | hk | hk
  · have e : wSm wg q = nthW q.a q.b q.last q.ofType := by simp [wSm, hk]
    rw [e]; unfold nthW
    by_cases h01 : q.a = 0 ∧ q.b = 1
    · rw [if_pos h01]; exact ⟨_, rfl⟩
    · rw [if_neg h01]; exact ⟨_, rfl⟩
  · exact ⟨[101, 109, 112, 116, 121], by simp [wSm, hk]⟩
  · exact ⟨[114, 111, 111, 116], by simp [wSm, hk]⟩
  · exact ⟨[110, 111, 116, 40] ++ (wg q.subs ++ [41]), by simp [wSm, hk]⟩
  · exact ⟨[104, 97, 115, 40] ++ (wg q.subs ++ [41]), by simp [wSm, hk]⟩
/-- The four ways a simple selector that is no name may be. -/
theorem sm_class {og : Group → Prop} {q : Simple} (h : okSm og q) (h1 : 1 < q.kind) : q.kind = 2 ∨ q.kind = 3 ∨ (q.kind = 4 ∨ (5 ≤ q.kind ∧ q.kind ≤ 10) ∨ q.kind = 16) ∨ (11 ≤ q.kind ∧ q.kind ≤ 15) := by
  have := h.kind; omega

/-- What may stand behind simple selectors. -/
def stopP (c : UInt8) : Prop := c.toNat = 32 ∨ c.toNat = 44 ∨ c.toNat = 41
theorem stopP_stop {c : UInt8} (h : stopP c) : stopC c := by unfold stopP at h; unfold stopC; omega
theorem parts_stop {wg : Group → List UInt8} {og : Group → Prop} {l : List Simple} {r : List UInt8} (h : ∀ q ∈ l, okSm og q ∧ 1 < q.kind) (hr : headP stopP r) : headP stopC (wParts wg l ++ r) := by
  cases l with
  | nil => intro c hc; exact stopP_stop (hr c (by simpa [wParts] using hc))
  | cons q l =>
    obtain ⟨hq, hk⟩ := h q (List.mem_cons_self ..)
    rw [wParts_cons]
    rcases sm_class hq hk with h | h | h | h
    · rw [wSm_2 h]; exact headP_cons (by simp [stopC])
    · rw [wSm_3 h]; exact headP_cons (by simp [stopC])
    · obtain ⟨t, ht⟩ := wSm_at (wg := wg) h; rw [ht]; exact headP_cons (by simp [stopC])
    · obtain ⟨t, ht⟩ := wSm_ps (wg := wg) h; rw [ht]; exact headP_cons (by simp [stopC])

theorem parts_no124 {wg : Group → List UInt8} {og : Group → Prop} {l : List Simple} {r : List UInt8} (h : ∀ q ∈ l, okSm og q ∧ 1 < q.kind) (hr : headP stopP r) : headP (fun c => c.toNat ≠ 124) (wParts wg l ++ r) := by
  cases l with
  | nil => intro c hc; have h1 := hr c (by simpa [wParts] using hc); unfold stopP at h1; show c.toNat ≠ 124; omega
  | cons q l =>
    obtain ⟨hq, hk⟩ := h q (List.mem_cons_self ..)
    rw [wParts_cons]
    rcases sm_class hq hk with h | h | h | h
    · rw [wSm_2 h]; exact headP_cons (by decide)
    · rw [wSm_3 h]; exact headP_cons (by decide)
    · obtain ⟨t, ht⟩ := wSm_at (wg := wg) h; rw [ht]; exact headP_cons (by decide)
    · obtain ⟨t, ht⟩ := wSm_ps (wg := wg) h; rw [ht]; exact headP_cons (by decide)

theorem parseID_sm (wg : Group → List UInt8) (D : Nat) (w : World) (bp : Nat) (s : ByteArray) (i d : Nat) (q : Simple) (r : List UInt8) (hp : PS w bp s i d) (ha : At s i (wSm wg q ++ r)) (hs : s.size ≤ 140737488351232)
    (hok : okSm (okG D) q) (hk : q.kind = 2) (hr : headP stopC r) :
    Calls Tryz.prog 80 #[.pointer (some ⟨bp, 0, none⟩)] w (PPost w bp s (i + (wSm wg q).length) d (.tuple #[.agg #[.string q.name], .nilIface])) := by
  obtain ⟨h1, h2, _⟩ := nameL_iff (hok.name (by omega) (by omega) (by omega) (by omega) (by omega) (by omega))
  rw [wSm_2 hk] at ha ⊢
  have := parseID_any w bp s i d (L q.name) r hp ha hs h1 h2 hr
  rw [bs_L] at this
  rw [show i + (35 :: L q.name).length = i + 1 + (L q.name).length by simp; omega]
  exact this
theorem parseClass_sm (wg : Group → List UInt8) (D : Nat) (w : World) (bp : Nat) (s : ByteArray) (i d : Nat) (q : Simple) (r : List UInt8) (hp : PS w bp s i d) (ha : At s i (wSm wg q ++ r)) (hs : s.size ≤ 140737488351232)
    (hok : okSm (okG D) q) (hk : q.kind = 3) (hr : headP stopC r) :
    Calls Tryz.prog 81 #[.pointer (some ⟨bp, 0, none⟩)] w (PPost w bp s (i + (wSm wg q).length) d (.tuple #[.agg #[.string q.name], .nilIface])) := by
  obtain ⟨h1, h2, _⟩ := nameL_iff (hok.name (by omega) (by omega) (by omega) (by omega) (by omega) (by omega))
  rw [wSm_3 hk] at ha ⊢
  have := parseClass_any w bp s i d (L q.name) r hp ha hs h1 h2 hr
  rw [bs_L] at this
  rw [show i + (46 :: L q.name).length = i + 1 + (L q.name).length by simp; omega]
  exact this
theorem parseType_sm (wg : Group → List UInt8) (D : Nat) (w : World) (bp : Nat) (s : ByteArray) (i d : Nat) (q : Simple) (r : List UInt8) (hp : PS w bp s i d) (ha : At s i (wSm wg q ++ r)) (hs : s.size ≤ 140737488351232)
    (hok : okSm (okG D) q) (hk : q.kind = 0) (hr : headP stopC r) :
    Calls Tryz.prog 79 #[.pointer (some ⟨bp, 0, none⟩)] w (PPost w bp s (i + (wSm wg q).length) d (.tuple #[.agg #[.string q.name], .nilIface])) := by
  obtain ⟨h1, h2, _⟩ := nameL_iff (hok.name (by omega) (by omega) (by omega) (by omega) (by omega) (by omega))
  rw [wSm_0 hk] at ha ⊢
  have := parseType_any w bp s i d (L q.name) r hp ha hs h1 h2 hr
  rw [bs_L] at this
  exact this

theorem At.end0 {s : ByteArray} {i : Nat} {r : List UInt8} (h : At s i r) : (i = s.size ∧ r = []) ∨ ∃ hlt : i < s.size, r.head? = some (s[i]) := by
  cases r with
  | nil => exact .inl ⟨by have := h.len; simpa using this, rfl⟩
  | cons c r => exact .inr ⟨h.lt, by rw [h.get]; rfl⟩

/-- The row of what has been read, the parser's state, and what is still to be read. -/
def SeqAt (D : Nat) (wg : Group → List UInt8) (bp : Nat) (s : ByteArray) (d : Nat) (w : World) (l : List Simple) (r : List UInt8) (pre rest : List Simple) (v : Value) (W : World) (i1 jend : Nat) : Prop :=
  l.filter notAny = pre ++ rest ∧ (∀ q ∈ rest, okSm (okG D) q ∧ 1 < q.kind) ∧ OwnRep w.heap.size 119 1 16 (EV (RSm (RS D))) W v pre ∧ St bp s d w W i1 ∧ At s i1 (wParts wg rest ++ r) ∧ i1 + (wParts wg rest).length = jend ∧ (pre ++ rest).length ≤ 4

theorem seqAt_drew {D : Nat} {wg : Group → List UInt8} {bp : Nat} {s : ByteArray} {d : Nat} {w : World} {l : List Simple} {r : List UInt8} {pre rest : List Simple} {v : Value} {W : World} {i1 jend : Nat}
    (h : SeqAt D wg bp s d w l r pre rest v W i1 jend) (n : Nat) : SeqAt D wg bp s d w l r pre rest v (W.drewN n) i1 jend :=
  ⟨h.1, h.2.1, OwnRep.keep (w := W) (w' := W.drewN n) (EV.rep (RSm.rep (RS.rep D))) (fun _ _ _ => rfl) (Nat.le_refl _) h.2.2.1, h.2.2.2.1.drewN n, h.2.2.2.2⟩

theorem filter_all {l : List Simple} {og : Group → Prop} (h : ∀ q ∈ l, okSm og q ∧ 1 < q.kind) : l.filter notAny = l := by
  rw [List.filter_eq_self]
  intro q hq
  have := (h q hq).2
  simp [notAny]; omega

/-- The world by another name, with what is known of it and of one block. -/
theorem st_goal1 {P : Program} {c : Code} {Q : Exit → Act → World → Prop} {a : Act} {w w0 : World} {bp d i k : Nat} {s : ByteArray} {ob : Obj} (hst : St bp s d w0 w i) (hc : w.heap[k]? = some ob)
    (h : ∀ W, St bp s d w0 W i → W.heap[k]? = some ob → c.wp P Q a W) : c.wp P Q a w := h w hst hc

/-- What reading simple selectors leaves. -/
def SeqPost (D : Nat) (l : List Simple) (w : World) (bp : Nat) (s : ByteArray) (j d : Nat) (e : Ending) (w' : World) : Prop :=
  ∃ v, e = .returned (.tuple #[v, .nilIface]) ∧ RPs (RS D) (fun k => w.heap.size ≤ k) w' v (l.filter notAny) ∧ PS w' bp s j d ∧ Mv bp w w'

end Go.Proofs.YteaapgijeehhfaaGreatDoor

namespace Go.Proofs.YteaapgijeehhfaaGreatDoor
open Go.RowKit

set_option maxRecDepth 100000 in
set_option maxHeartbeats 8000000 in
theorem parseSeq_any (D : Nat) (wg : Group → List UInt8) (w : World) (bp : Nat) (s : ByteArray) (i0 d : Nat) (l : List Simple) (r : List UInt8) (hp : PS w bp s i0 d) (ha : At s i0 (wParts wg l ++ r)) (hs : s.size ≤ 140737488351232)
    (hok : okParts (okG D) l) (hr : headP stopP r)
    (hw : ∀ g, okG D g → ∀ r, noSkip (wg g ++ (41 :: r)))
    (hG : ∀ g, okG D g → ∀ W j r, PS W bp s j d → At s j (wg g ++ (41 :: r)) → Calls Tryz.prog 52 #[.pointer (some ⟨bp, 0, none⟩)] W (GPost D g W bp s (j + (wg g).length) d)) :
    Calls Tryz.prog 71 #[.pointer (some ⟨bp, 0, none⟩)] w (SeqPost D l w bp s (i0 + (wParts wg l).length) d) := by
  have h0 := hp.c0
  have h1 := hp.c1
  have f1 := hp.f1
  have HE := EV.rep (RSm.rep (RS.rep D))
  have HBP := Lib.hid hp.lt
  have HR := Lib.hid hr
  have HW := Lib.hid (fun g (h : okG D g) => hw g h)
  have HG := Lib.hid (fun g (h : okG D g) => hG g h)
  have HS0 := Lib.hid (St.start hp)
  obtain ⟨q0, l', rfl⟩ : ∃ q0 l', l = q0 :: l' := by
    cases l with
    | nil => exact absurd hok.len.1 (by simp)
    | cons q l => exact ⟨q, l, rfl⟩
  have hrest : ∀ q ∈ l', okSm (okG D) q ∧ 1 < q.kind := by
    intro q hq
    obtain ⟨k, hk, rfl⟩ := List.getElem_of_mem hq
    have := hok.each (k + 1) (by simp; omega)
    exact ⟨this.1, this.2 (by omega)⟩
  have hq0 : okSm (okG D) q0 := (hok.each 0 (by simp)).1
  have hlen : l'.length ≤ 3 := by have := hok.len.2; simp at this; omega
  obtain ⟨jend, hjend⟩ : ∃ jend, jend = i0 + (wParts wg (q0 :: l')).length := ⟨_, rfl⟩
  rw [← hjend]
  have HJ := Lib.hid hjend
  have HRL := Lib.hid hrest
  have HQ0 := Lib.hid hq0
  have HA0 := Lib.hid ha
  have HLN := Lib.hid hlen
  have hne : ∃ c u, wParts wg (q0 :: l') ++ r = c :: u := by
    rw [wParts_cons, List.append_assoc]
    by_cases hk0 : q0.kind = 0
    · obtain ⟨h1, h2, _⟩ := nameL_iff (hq0.name (by omega) (by omega) (by omega) (by omega) (by omega) (by omega))
      obtain ⟨c, t, e, _⟩ := headSmall_cons h2
      rw [wSm_0 hk0, e]; exact ⟨_, _, rfl⟩
    · by_cases hk1 : q0.kind = 1
      · rw [wSm_1 hk1]; exact ⟨_, _, rfl⟩
      · rcases sm_class hq0 (by have := hq0.kind; omega) with h | h | h | h
        · rw [wSm_2 h]; exact ⟨_, _, rfl⟩
        · rw [wSm_3 h]; exact ⟨_, _, rfl⟩
        · obtain ⟨t, ht⟩ := wSm_at (wg := wg) h; rw [ht]; exact ⟨_, _, rfl⟩
        · obtain ⟨t, ht⟩ := wSm_ps (wg := wg) h; rw [ht]; exact ⟨_, _, rfl⟩
  obtain ⟨c0, u0, hcu⟩ := hne
  have hlt0 : i0 < s.size := At.lt (c := c0) (r := u0) (by rw [← hcu]; exact ha)
  have hlt1 : (i0 : Int) < (s.size : Int) := by omega
  have HCU := Lib.hid hcu
  clear ha hp hok hr hw hG hrest hq0 hlen hjend hcu
  go_enter Tryz.func71, Tryz.ntmps71
  go_wp2_with fail
  go_step3
  go_wp2_with fail
  go_quiet (fail)
  go_wp2_with fail
  go_quiet (fail)
  go_upto_block 0 with fail
  go_cut [4] from 11 to 92 (fun v W => ∃ pre rest i1, SeqAt D wg bp s d w (q0 :: l') r pre rest v W i1 jend)
  case first =>
    --[A
    have hqk : q0.kind = 0 ∨ q0.kind = 1 ∨ 1 < q0.kind := by have := HQ0.out.kind; omega
    rcases hqk with hk | hk | hk
    · obtain ⟨n1, n2, _⟩ := nameL_iff (HQ0.out.name (by omega) (by omega) (by omega) (by omega) (by omega) (by omega))
      obtain ⟨c, t, hct, hc1, hc2⟩ := headSmall_cons n2
      have hat : At s i0 (c :: (t ++ (wParts wg l' ++ r))) := by have h := HA0.out; rw [wParts_cons, wSm_0 hk, hct, List.append_assoc] at h; exact h
      have hg := hat.get
      have e1 : ((s[i0].toNat : Int) == 42) = false := by rw [hg]; simp; omega
      have e2 : ((s[i0].toNat : Int) == 35) = false := by rw [hg]; simp; omega
      have e3 : ((s[i0].toNat : Int) == 46) = false := by rw [hg]; simp; omega
      have e4 : ((s[i0].toNat : Int) == 91) = false := by rw [hg]; simp; omega
      have e5 : ((s[i0].toNat : Int) == 58) = false := by rw [hg]; simp; omega
      clear hg hc1 hc2 hat hct n1 n2
      go_upto_region 8 with (go_at_call 79; refine (parseType_sm wg D _ bp s i0 d q0 (wParts wg l' ++ r) (by exact (HS0.out.drewN _).ps) (by have h := HA0.out; rw [wParts_cons, List.append_assoc] at h; exact h) hs HQ0.out hk (parts_stop HRL.out HR.out)).mono ?_; rintro e w' ⟨rfl, hp2, hm2⟩; have HS2 := Lib.hid ((HS0.out.drewN _).after hp2 hm2); clear hp2 hm2)
      refine st_goal1 (k := w'.heap.size) (HS2.out.alloc _) (heap_alloc_new w' _) (fun W hst hcell => ?_)
      have z0 := cell_of_heap hcell 0
      simp only [List.getElem?_toArray, List.getElem?_cons_zero] at z0
      have HS3 := Lib.hid hst
      clear hst hcell
      go_wp2_with (at_builtin; refine wpList_push HE w.heap.size rfl (.tmp 39) (.tmp 42) 90 119 .nilIface 1 16 rfl Tryz.underlying90 info119 rfl (by decide) (by decide) (.slice none 0 0) ([] : List Simple) [.iface 153 (.agg #[.string q0.name])] q0 ⟨W.heap.size, 0, none⟩ rfl rfl rfl ?c1 (news_alloc W _ _) (OwnRep.nil _ _ _ _ _ _) ?c4 ?c5 (by decide) ?_)
      case c1 => intro u hu; simp at hu; subst hu; rfl
      case c4 => exact ⟨_, rfl, rfl, .nilIface, by simp [vSm, hk], fun h => by omega⟩
      case c5 => have := HS3.out.mv.size; simp; omega
      · intro gg cap4 w1 hO3 hG hat hgl
        have hO3 := Lib.hid hO3
        have HS4 := Lib.hid ((HS3.out.alloc _).grown hG HBP.out (fun j hj => by cases hj))
        clear hG hat
        go_wp2_with fail
        go_meet
        case rel =>
          refine ⟨[q0], l', i0 + (wSm wg q0).length, ?_, HRL.out, hO3.out, HS4.out, ?_, ?_, ?_⟩
          · rw [List.filter_cons_of_pos (by simp [notAny, hk]), filter_all HRL.out]; rfl
          · have h := HA0.out; rw [wParts_cons, List.append_assoc] at h; exact h.skip
          · rw [HJ.out, wParts_cons, List.length_append]; omega
          · have := HLN.out; simp; omega
    · have hat : At s i0 (42 :: (wParts wg l' ++ r)) := by have h := HA0.out; rw [wParts_cons, wSm_1 hk, List.append_assoc] at h; exact h
      have hg := hat.get
      have e1 : ((s[i0].toNat : Int) == 42) = true := by rw [hg]; rfl
      have HAN := Lib.hid hat.next
      clear hg hat
      go_upto_region 11 with fail
      obtain ⟨i1, hi1⟩ : ∃ i1, i1 = i0 + 1 := ⟨_, rfl⟩
      refine st_goal ((HS0.out.drewN _).setI i1 _ (by omega)) (fun W hst => ?_)
      have HS1 := Lib.hid hst
      have g0 := hst.c0
      have g1 := hst.c1
      have g2 := hst.f1
      have HI := Lib.hid hi1
      have hle : i1 ≤ s.size := by omega
      clear hst h0 h1 f1 hi1
      have hrel : SeqAt D wg bp s d w (q0 :: l') r [] l' (.slice none 0 0) W i1 jend := by
        refine ⟨?_, HRL.out, OwnRep.nil _ _ _ _ _ _, HS1.out, by rw [HI.out]; exact HAN.out, ?_, ?_⟩
        · rw [List.filter_cons_of_neg (by simp [notAny, hk]), filter_all HRL.out]; rfl
        · rw [HJ.out, wParts_cons, wSm_1 hk, HI.out]; simp; omega
        · have := HLN.out; simp; omega
      have HREL := Lib.hid hrel
      clear hrel
      by_cases h2 : (i1 : Int) + 2 < (s.size : Int)
      · have e2 : decide ((i1 : Int) + 2 < (s.size : Int)) = true := by simpa using h2
        have hat1 : At s i1 (wParts wg l' ++ r) := by rw [HI.out]; exact HAN.out
        have h124 := parts_no124 (wg := wg) HRL.out HR.out
        obtain ⟨c1, c2, t, ht⟩ : ∃ c1 c2 t, wParts wg l' ++ r = c1 :: c2 :: t := by
          have hl := hat1.len
          match hm : wParts wg l' ++ r with
          | [] => rw [hm] at hl; simp at hl; omega
          | [_] => rw [hm] at hl; simp at hl; omega
          | c1 :: c2 :: t => exact ⟨c1, c2, t, rfl⟩
        rw [ht] at hat1 h124
        have hc1 : c1.toNat ≠ 124 := h124 c1 rfl
        have hsl : ∀ wx, (Instr.slice 9 (.string s) (some (.int .i64 (i1 : Int))) (some (.int .i64 ((i1 : Int) + 2))) none).run Tryz.prog wx = .ok (.string (bs [c1, c2])) wx := slice_at (l := [c1, c2]) (r := t) hat1
        have hne : ((bs [c1, c2]).toList == [124, 42]) = false := by
          rw [L_toList, L_bs]
          apply Bool.eq_false_iff.2
          intro h
          have h4 : c1 = 124 := (List.cons.inj (eq_of_beq h)).1
          rw [h4] at hc1; exact hc1 rfl
        clear hat1 h124 ht hc1
        go_quiet (fail)
        go_wp2_with fail
        go_meet
        case rel => exact ⟨_, _, _, seqAt_drew HREL.out _⟩
      · have e2 : decide ((i1 : Int) + 2 < (s.size : Int)) = false := by simpa using h2
        clear h2
        go_quiet (fail)
        go_wp2_with fail
        go_meet
        case rel => exact ⟨_, _, _, seqAt_drew HREL.out _⟩
    · obtain ⟨ch, u, hcu, hch⟩ : ∃ ch u, wParts wg (q0 :: l') ++ r = ch :: u ∧ (ch = 35 ∨ ch = 46 ∨ ch = 91 ∨ ch = 58) := by
        rw [wParts_cons, List.append_assoc]
        rcases sm_class HQ0.out hk with h | h | h | h
        · rw [wSm_2 h]; exact ⟨_, _, rfl, by decide⟩
        · rw [wSm_3 h]; exact ⟨_, _, rfl, by decide⟩
        · obtain ⟨t, ht⟩ := wSm_at (wg := wg) h; rw [ht]; exact ⟨_, _, rfl, by decide⟩
        · obtain ⟨t, ht⟩ := wSm_ps (wg := wg) h; rw [ht]; exact ⟨_, _, rfl, by decide⟩
      have hg : s[i0] = ch := At.get (r := u) (by rw [← hcu]; exact HA0.out)
      have hall : ∀ q ∈ q0 :: l', okSm (okG D) q ∧ 1 < q.kind := by
        intro q hq
        rcases List.mem_cons.1 hq with rfl | hq
        · exact ⟨HQ0.out, hk⟩
        · exact HRL.out q hq
      have HREL : ∀ n, SeqAt D wg bp s d w (q0 :: l') r [] (q0 :: l') (.slice none 0 0) (w.drewN n) i0 jend := fun n => ⟨filter_all hall, hall, OwnRep.nil _ _ _ _ _ _, HS0.out.drewN _, HA0.out, HJ.out.symm, by have := HLN.out; simp; omega⟩
      have HREL := Lib.hid HREL
      clear hcu hall
      have e0 : ((s[i0].toNat : Int) == 42) = false := by rw [hg]; rcases hch with rfl | rfl | rfl | rfl <;> rfl
      rcases hch with rfl | rfl | rfl | rfl
      · have e1 : ((s[i0].toNat : Int) == 35) = true := by rw [hg]; rfl
        clear hg
        go_wp2_with fail
        go_meet
        case rel => exact ⟨_, _, _, HREL.out _⟩
      · have e1 : ((s[i0].toNat : Int) == 35) = false := by rw [hg]; rfl
        have e2 : ((s[i0].toNat : Int) == 46) = true := by rw [hg]; rfl
        clear hg
        go_wp2_with fail
        go_meet
        case rel => exact ⟨_, _, _, HREL.out _⟩
      · have e1 : ((s[i0].toNat : Int) == 35) = false := by rw [hg]; rfl
        have e2 : ((s[i0].toNat : Int) == 46) = false := by rw [hg]; rfl
        have e3 : ((s[i0].toNat : Int) == 91) = true := by rw [hg]; rfl
        clear hg
        go_wp2_with fail
        go_meet
        case rel => exact ⟨_, _, _, HREL.out _⟩
      · have e1 : ((s[i0].toNat : Int) == 35) = false := by rw [hg]; rfl
        have e2 : ((s[i0].toNat : Int) == 46) = false := by rw [hg]; rfl
        have e3 : ((s[i0].toNat : Int) == 91) = false := by rw [hg]; rfl
        have e4 : ((s[i0].toNat : Int) == 58) = true := by rw [hg]; rfl
        clear hg
        go_wp2_with fail
        go_meet
        case rel => exact ⟨_, _, _, HREL.out _⟩
    --A]
  case rest =>
    obtain ⟨pre, rest, i1, hflt, hall, hown, hst, hat, hje, hlen4⟩ := hcut
    have HFL := Lib.hid hflt
    have HALL := Lib.hid hall
    have HAT := Lib.hid hat
    have HJE := Lib.hid hje
    have HL4 := Lib.hid hlen4
    have HOWN := Lib.hid hown
    have HST := Lib.hid hst
    clear hflt hall hown hst hat hje hlen4 h0 h1 f1
    go_wp2_with fail
    go_step3
    go_wp2_with fail
    go_loopg [4, 7] rest.length (fun n v pe W => ∃ k : Nat, n = rest.length - k ∧ k ≤ rest.length ∧ pe = .string ⟨#[]⟩ ∧ OwnRep w.heap.size 119 1 16 (EV (RSm (RS D))) W v (pre ++ rest.take k) ∧ St bp s d w W (i1 + (wParts wg (rest.take k)).length))
    case atStart => exact ⟨0, rfl, Nat.zero_le _, rfl, by simpa using HOWN.out, by simpa [wParts] using HST.out⟩
    case round =>
      obtain ⟨k, rfl, hk, rfl, hown, hst⟩ := hrel
      have hlk : (pre ++ rest.take k).length = pre.length + k := by rw [List.length_append, take_len hk]
      obtain ⟨va, vc, rfl⟩ := hown.val (pre.length + k) hlk
      obtain ⟨p, hp⟩ : ∃ p, p = i1 + (wParts wg (rest.take k)).length := ⟨_, rfl⟩
      rw [← hp] at hst
      have hap : At s p (wParts wg (rest.drop k) ++ r) := by
        have h := HAT.out
        have e := wParts_append wg (rest.take k) (rest.drop k)
        rw [List.take_append_drop] at e
        rw [e, List.append_assoc] at h
        rw [hp]; exact h.skip
      have g0 := hst.c0
      have g1 := hst.c1
      have hO := Lib.hid hown
      have HS := Lib.hid hst
      have HPP := Lib.hid hp
      have hl := Lib.hid hown.block_lt
      have HLK := Lib.hid hlk
      clear hown hst hp hlk
      by_cases hlt : k < rest.length
      · --[B
        obtain ⟨q, hq⟩ : ∃ q, rest[k] = q := ⟨_, rfl⟩
        obtain ⟨hqo, hqk⟩ := HALL.out q (by rw [← hq]; exact List.getElem_mem _)
        have hd : rest.drop k = q :: rest.drop (k + 1) := by rw [List.drop_eq_getElem_cons hlt, hq]
        rw [hd, wParts_cons, List.append_assoc] at hap
        have hrest : headP stopC (wParts wg (rest.drop (k + 1)) ++ r) := parts_stop (fun x hx => HALL.out x (List.mem_of_mem_drop hx)) HR.out
        have hnext : i1 + (wParts wg (rest.take (k + 1))).length = p + (wSm wg q).length := by
          rw [← take_push hlt hq, wParts_snoc, HPP.out, List.length_append]; omega
        obtain ⟨ch, u, hcu, hch⟩ : ∃ ch u, wSm wg q ++ (wParts wg (rest.drop (k + 1)) ++ r) = ch :: u ∧ ((ch = 35 ∧ q.kind = 2) ∨ (ch = 46 ∧ q.kind = 3) ∨ (ch = 91 ∧ (q.kind = 4 ∨ (5 ≤ q.kind ∧ q.kind ≤ 10) ∨ q.kind = 16)) ∨ (ch = 58 ∧ 11 ≤ q.kind ∧ q.kind ≤ 15)) := by
          rcases sm_class hqo hqk with h | h | h | h
          · rw [wSm_2 h]; exact ⟨_, _, rfl, .inl ⟨rfl, h⟩⟩
          · rw [wSm_3 h]; exact ⟨_, _, rfl, .inr (.inl ⟨rfl, h⟩)⟩
          · obtain ⟨t, ht⟩ := wSm_at (wg := wg) h; rw [ht]; exact ⟨_, _, rfl, .inr (.inr (.inl ⟨rfl, h⟩))⟩
          · obtain ⟨t, ht⟩ := wSm_ps (wg := wg) h; rw [ht]; exact ⟨_, _, rfl, .inr (.inr (.inr ⟨rfl, h⟩))⟩
        have hplt : p < s.size := At.lt (c := ch) (r := u) (by rw [← hcu]; exact hap)
        have hplt1 : (p : Int) < (s.size : Int) := by omega
        have hpg : s[p] = ch := At.get (r := u) (by rw [← hcu]; exact hap)
        have hbt : (pre.length + k + 1) * 16 ≤ 140737488355328 := by have := HL4.out; simp at this; omega
        have HAP := Lib.hid hap
        have HRS := Lib.hid hrest
        have HQ := Lib.hid hq
        have HQO := Lib.hid hqo
        have HN := Lib.hid hnext
        have HCH := Lib.hid hch
        have HPG := Lib.hid hpg
        clear hq hd hrest hnext hqo hap hcu hch hpg hqk
        go_wp2_with fail
        go_quiet (fail)
        go_wp2_with fail
        go_quiet (fail)
        go_upto_block 3 with fail
        go_cut [8, 9, 10] from 93 to 165 (fun v8 v9 v10 W2 => ∃ T x, v8 = .iface T x ∧ v9 = .string ⟨#[]⟩ ∧ v10 = .nilIface ∧ RSm (RS D) (fun k => wr.heap.size ≤ k) W2 v8 q ∧ Mv bp wr W2 ∧ PS W2 bp s (p + (wSm wg q).length) d)
        case first =>
          rcases HCH.out with ⟨hc, hkd⟩ | ⟨hc, hkd⟩ | ⟨hc, hkd⟩ | ⟨hc, hkd⟩
          · subst hc
            have e35 : ((s[p].toNat : Int) == 35) = true := by rw [HPG.out]; rfl
            go_wp2_with (go_at_call 80; refine (parseID_sm wg D _ bp s p d q _ (by exact (HS.out.drewN _).ps) HAP.out hs HQO.out hkd HRS.out).mono ?_; rintro e w' ⟨rfl, hp2, hm2⟩; have HM2 := Lib.hid (((Mv.refl bp wr).drewN _).trans hm2); have HP2 := Lib.hid hp2; clear hp2 hm2)
            go_meet
            case rel => exact ⟨_, _, rfl, rfl, rfl, ⟨.nilIface, by simp [vSm, hkd], fun h => by omega⟩, HM2.out, HP2.out⟩
          · subst hc
            have e35 : ((s[p].toNat : Int) == 35) = false := by rw [HPG.out]; rfl
            have e46 : ((s[p].toNat : Int) == 46) = true := by rw [HPG.out]; rfl
            go_wp2_with (go_at_call 81; refine (parseClass_sm wg D _ bp s p d q _ (by exact (HS.out.drewN _).ps) HAP.out hs HQO.out hkd HRS.out).mono ?_; rintro e w' ⟨rfl, hp2, hm2⟩; have HM2 := Lib.hid (((Mv.refl bp wr).drewN _).trans hm2); have HP2 := Lib.hid hp2; clear hp2 hm2)
            go_meet
            case rel => exact ⟨_, _, rfl, rfl, rfl, ⟨.nilIface, by simp [vSm, hkd], fun h => by omega⟩, HM2.out, HP2.out⟩
          · subst hc
            have e35 : ((s[p].toNat : Int) == 35) = false := by rw [HPG.out]; rfl
            have e46 : ((s[p].toNat : Int) == 46) = false := by rw [HPG.out]; rfl
            have e91 : ((s[p].toNat : Int) == 91) = true := by rw [HPG.out]; rfl
            go_wp2_with (go_at_call 82; refine (parseAttr_all wg (okG D) q _ bp s p d _ (by exact (HS.out.drewN _).ps) HAP.out hs HQO.out hkd).mono ?_; rintro e w' ⟨rfl, hp2, hm2⟩; have HM2 := Lib.hid (((Mv.refl bp wr).drewN _).trans hm2); have HP2 := Lib.hid hp2; clear hp2 hm2)
            go_meet
            case rel => exact ⟨_, _, rfl, rfl, rfl, ⟨.nilIface, (vSm_at q .nilIface hkd).symm, fun h => by omega⟩, HM2.out, HP2.out⟩
          · subst hc
            have e35 : ((s[p].toNat : Int) == 35) = false := by rw [HPG.out]; rfl
            have e46 : ((s[p].toNat : Int) == 46) = false := by rw [HPG.out]; rfl
            have e91 : ((s[p].toNat : Int) == 91) = false := by rw [HPG.out]; rfl
            have e58 : ((s[p].toNat : Int) == 58) = true := by rw [HPG.out]; rfl
            go_wp2_with (go_at_call 83; refine (parsePs_all D wg (okG D) q _ bp s p d _ (by exact (HS.out.drewN _).ps) HAP.out hs HQO.out hkd HRS.out (HW.out q.subs) (fun h W j r hW hA => HG.out q.subs h W j r hW hA)).mono ?_; rintro e w' ⟨gv, rfl, hgv, hp2, hm2⟩; obtain ⟨T, x, hTx⟩ := vSm_ps q gv; rw [hTx]; have HTX := Lib.hid hTx; have HGV := Lib.hid hgv; clear hgv hTx; have HM2 := Lib.hid (((Mv.refl bp wr).drewN _).trans hm2); have HP2 := Lib.hid hp2; clear hp2 hm2)
            go_meet
            case rel => exact ⟨_, _, rfl, rfl, rfl, ⟨gv, HTX.out.symm, HGV.out⟩, HM2.out, HP2.out⟩
        case rest =>
          obtain ⟨T, x, rfl, rfl, rfl, hrsm, hmv, hps2⟩ := hcut
          have HRSM := Lib.hid hrsm
          have HMV := Lib.hid hmv
          have HS2 := Lib.hid (HS.out.after hps2 hmv)
          have hO2 := Lib.hid (OwnRep.mv HE hO.out hmv HBP.out)
          clear hrsm hmv hps2 g0 g1
          go_wp2_with (at_builtin; refine wpList_push HE w.heap.size rfl (.tmp 162) (.tmp 164) 90 119 .nilIface 1 16 rfl Tryz.underlying90 info119 rfl (by decide) (by decide) (.slice va (pre.length + k) vc) (pre ++ rest.take k) [.iface T x] q ⟨wc.heap.size, 0, none⟩ rfl rfl rfl ?c1 (news_alloc wc _ _) ?c3 ?c4 ?c5 ?c6 ?_)
          case c1 => intro u hu; simp at hu; subst hu; rfl
          case c3 => exact OwnRep.below HE ((Below.refl _ _).alloc (Nat.le_refl _) _) hO2.out
          case c4 =>
            refine ⟨_, rfl, rfl, ?_⟩
            refine (RSm.rep (RS.rep D)).mono ?_ ((RSm.rep (RS.rep D)).keep (KeepX.of_all ((Below.refl _ _).alloc (Nat.le_refl _) _)) HRSM.out)
            intro j (hj : wr.heap.size ≤ j)
            refine ⟨Nat.le_trans HS.out.mv.size hj, fun e => ?_⟩
            have := (hl.out j e.symm).2
            omega
          case c5 => have := HS2.out.mv.size; simp; omega
          case c6 => rw [HLK.out]; exact hbt
          · intro gg cap4 w1 hO3 hG hat hgl
            have hO3 := Lib.hid hO3
            have HS3 := Lib.hid ((HS2.out.alloc _).grown hG HBP.out (fun j hj => (hl.out j hj).1))
            clear hG hat
            go_wp2_with fail
            go_roundg (rest.length - (k + 1))
            case measure => omega
            case rel => exact ⟨k + 1, rfl, by omega, rfl, by rw [← take_push hlt HQ.out]; exact hO3.out, by rw [HN.out]; exact HS3.out⟩
        --B]
      · --[C
        obtain rfl : k = rest.length := by omega
        have hap0 : At s p r := by rw [List.drop_length] at hap; exact hap
        have hend : p = jend := by rw [HPP.out, List.take_length]; exact HJE.out
        subst hend
        have hown : OwnRep w.heap.size 119 1 16 (EV (RSm (RS D))) wr (.slice va (pre.length + rest.length) vc) (pre ++ rest) := by have h := hO.out; rwa [List.take_length] at h
        have hsl := hown.slice HE
        have hlen : (pre ++ rest).length = pre.length + rest.length := List.length_append
        obtain ⟨sel, hsel⟩ : ∃ sel, sel = pre ++ rest := ⟨_, rfl⟩
        have hfl : (q0 :: l').filter notAny = sel := by rw [hsel]; exact HFL.out
        rw [← hsel] at hsl hlen
        obtain ⟨m, hm⟩ : ∃ m, m = pre.length + rest.length := ⟨_, rfl⟩
        rw [← hm] at hsl hlen ⊢
        have HSL := Lib.hid hsl
        have HFS := Lib.hid hfl
        have HLM := Lib.hid hlen
        clear hown hsl hlen hsel hfl hm hap hk hlt
        have hps := HS.out.ps
        have hhead := hap0.end0
        have HAP0 := Lib.hid hap0
        clear hps hap0
        have hm4 : m ≤ 140737488355328 := by obtain ⟨a, c, h, hl⟩ := HSL.out.len (by omega); have := HLM.out; omega
        by_cases hm1 : m = 1
        · subst hm1
          obtain ⟨x, hx⟩ : ∃ x, sel = [x] := List.length_eq_one_iff.1 HLM.out
          subst hx
          obtain ⟨b, o, cap, v0, hve, hcell, hrs⟩ : ∃ b o cap v0, Value.slice va 1 vc = .slice (some ⟨b, o, none⟩) 1 cap ∧ wr.cell? ⟨b, o, none⟩ = some v0 ∧ RSm (RS D) (fun k => w.heap.size ≤ k) wr v0 x := by
            rcases SlX.view HSL.out (by omega) with ⟨h, _⟩ | ⟨b, o, cap, hve, _, _, _, _, hc⟩
            · cases h
            · obtain ⟨cs, h1, h2, v0, rfl, _, hr⟩ := hc 0 (by simp)
              exact ⟨b, o, cap, v0, hve, by simpa using h2 0 v0 rfl, hr⟩
          simp only [Value.slice.injEq] at hve
          obtain ⟨rfl, -, rfl⟩ := hve
          have HRS := Lib.hid hrs
          clear hrs
          rcases hhead with ⟨hpe, hre⟩ | ⟨hplt, hph⟩
          · have hnl : ¬ ((p : Int) < (s.size : Int)) := by omega
            clear hpe hre
            go_wp2_with fail
            go_quiet (fail)
            go_wp2_with fail
            rw [Exit.noGoto_ret]
            go_ret2
            exact ⟨_, rfl, .inl ⟨x, HFS.out, (RSm.rep (RS.rep D)).keep (KeepX.drewN _ wr _) HRS.out⟩, HS.out.ps.drewN _, HS.out.mv.drewN _⟩
          · have hplt1 : (p : Int) < (s.size : Int) := by omega
            have hst := HR.out _ hph
            have e35 : ((s[p].toNat : Int) == 35) = false := by unfold stopP at hst; simp; omega
            have e46 : ((s[p].toNat : Int) == 46) = false := by unfold stopP at hst; simp; omega
            have e91 : ((s[p].toNat : Int) == 91) = false := by unfold stopP at hst; simp; omega
            have e58 : ((s[p].toNat : Int) == 58) = false := by unfold stopP at hst; simp; omega
            clear hst hph
            go_wp2_with fail
            go_quiet (fail)
            go_wp2_with fail
            go_quiet (fail)
            go_wp2_with fail
            rw [Exit.noGoto_ret]
            go_ret2
            exact ⟨_, rfl, .inl ⟨x, HFS.out, (RSm.rep (RS.rep D)).keep (KeepX.drewN _ wr _) HRS.out⟩, HS.out.ps.drewN _, HS.out.mv.drewN _⟩
        · have hm1' : ((m : Int) == 1) = false := by simp; omega
          clear hm1
          rcases hhead with ⟨hpe, hre⟩ | ⟨hplt, hph⟩
          · have hnl : ¬ ((p : Int) < (s.size : Int)) := by omega
            clear hpe hre
            go_wp2_with fail
            go_quiet (fail)
            go_wp2_with fail
            rw [Exit.noGoto_ret]
            go_ret2
            exact ⟨_, rfl, .inr ⟨by rw [HFS.out, HLM.out]; intro h; rw [h] at hm1'; simp at hm1', _, rfl, by rw [HFS.out]; exact (SlX.rep HE (by omega)).keep (KeepX.drewN _ wr _) HSL.out⟩, HS.out.ps.drewN _, HS.out.mv.drewN _⟩
          · have hplt1 : (p : Int) < (s.size : Int) := by omega
            have hst := HR.out _ hph
            have e35 : ((s[p].toNat : Int) == 35) = false := by unfold stopP at hst; simp; omega
            have e46 : ((s[p].toNat : Int) == 46) = false := by unfold stopP at hst; simp; omega
            have e91 : ((s[p].toNat : Int) == 91) = false := by unfold stopP at hst; simp; omega
            have e58 : ((s[p].toNat : Int) == 58) = false := by unfold stopP at hst; simp; omega
            clear hst hph
            go_wp2_with fail
            go_quiet (fail)
            go_wp2_with fail
            go_quiet (fail)
            go_wp2_with fail
            rw [Exit.noGoto_ret]
            go_ret2
            exact ⟨_, rfl, .inr ⟨by rw [HFS.out, HLM.out]; intro h; rw [h] at hm1'; simp at hm1', _, rfl, by rw [HFS.out]; exact (SlX.rep HE (by omega)).keep (KeepX.drewN _ wr _) HSL.out⟩, HS.out.ps.drewN _, HS.out.mv.drewN _⟩
        --C]

end Go.Proofs.YteaapgijeehhfaaGreatDoor
