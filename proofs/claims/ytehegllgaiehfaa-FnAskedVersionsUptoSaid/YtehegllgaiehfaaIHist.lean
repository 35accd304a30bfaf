/- impl.history. -/
import Derived.Test.YtehegllgaiehfaaPlay
namespace Go.Proofs.Ytehegllgaiehfaa
open Go.RowKit

theorem pkH : PK Head := fun _ _ _ _ _ a b c => a.free b c
abbrev HsI := @Hs Nat ptc 55 Head
theorem HsI.ext {w W W' : World} {o t : Value} {vals : List Nat} {vs : List Ps} {fs : List Fd} (h : HsI w W o t vals vs fs) (hk : Kept Non W W') : HsI w W' o t vals vs fs := Hs.ext pkH h hk
/-- trees, and what has been told -/
def IHist (w : World) (h : List Ps × List Fd) (e : Ending) (w' : World) : Prop := ∃ o t vals, e = .returned (.tuple #[o, t]) ∧ HsI w w' o t vals h.1 h.2
theorem Played.ok {ax : List Ac} (h : Played ax) (hw : ActsW ax) : ∀ a ∈ ax, -2147483648 < a.key ∧ a.key ≤ 2147483647 := fun a ha => by
  have h1 := (h.key a ha).1
  have h2 := hw a ha
  omega
theorem Played.at {ax : List Ac} (h : Played ax) {k : Nat} (hk : k < ax.length) (hq : bits .and .i64 ax[k].kind 7 = 4 ∨ bits .and .i64 ax[k].kind 7 = 5) :
    opOf ax[k].mix = some (mixV ax[k].mix) ∧ Fresh (mixV ax[k].mix) ((hist (ax.take k)).1.getD (idx ax[k].of (hist (ax.take k)).1.length) []) ((hist (ax.take k)).1.getD (idx ax[k].wit (hist (ax.take k)).1.length) []) := by
  have h1 := (h.key _ (List.getElem_mem hk)).2 hq
  have h2 := h.fresh k hk hq
  have hl := (hist_len ax k (by omega)).1
  rw [hist_get ax k _ (by omega) (idx_lt _ _ (by omega)), hist_get ax k _ (by omega) (idx_lt _ _ (by omega))] at h2
  rw [hl]
  exact ⟨by rw [opOf, h1]; rfl, freshB_fresh h2⟩

set_option maxRecDepth 100000 in
set_option maxHeartbeats 2000000 in
theorem history_any (w : World) (v : Value) (ax : List Ac) (h : SlA w v ax) (hl : ax.length ≤ 1599289640400) (hw : ActsW ax) (hpl : Played ax) : Calls Try.prog 45 #[v] w (IHist w (hist ax)) := by
  obtain ⟨a, cap, rfl⟩ := h.form
  have HS := hid0 (And.intro h hw)
  have HPL := hid0 hpl
  clear h hw hpl
  go_enter Try.func45, Try.ntmps45
  go_wp2
  go_loopg [4, 5, 17] (ax.length) (fun n o t i wr => ∃ (k : Nat) (vals : List Nat), k + n = ax.length ∧ i = .int .i64 k ∧ HsI w wr o t vals (hist (ax.take k)).1 (hist (ax.take k)).2)
  case atStart =>
    refine ⟨0, [w.heap.size], by simp, rfl, ?_⟩
    simp only [List.take_zero]
    refine ⟨⟨rfl, .inr ⟨w.heap.size + 1, 1, #[.pointer (some ⟨w.heap.size, 0, none⟩)], rfl, by omega, ?_, by simp, by decide, rfl, rfl⟩⟩, rfl, ?_, Own.nil _, ((Kept.refl _ _).alloc _).alloc _⟩
    · have := alloc_new (w.alloc (.cells #[.pointer none, .int .i64 0] 78)) (.cells #[.pointer (some ⟨w.heap.size, 0, none⟩)] 55)
      simpa using this
    · intro i s xs hs hx
      have : i = 0 := by
        have := (List.getElem?_eq_some_iff.1 hs).1
        simpa using this
      subst this
      simp [hist] at hs hx
      subst hs hx
      exact Head.ext (Head.empty (alloc_new _ _)) ((Kept.refl _ _).alloc _)
  case round =>
    obtain ⟨k, vals, hk, rfl, hH⟩ := hrel
    obtain ⟨⟨vs, fs⟩, hv⟩ : ∃ H, H = hist (ax.take k) := ⟨_, rfl⟩
    have HV := hid0 hv
    rw [← hv] at hH
    simp only at hH
    obtain ⟨⟨oa, oc, rfl⟩, ta, tc, rfl⟩ := hH.form (fun s => rfl)
    have HH := hid0 hH
    have hsz := hH.kept.size
    by_cases hlt : k < ax.length
    · have hlen := hist_len ax k (by omega)
      rw [← hv] at hlen
      simp only at hlen
      have n1 : 0 < vs.length := by omega
      have n2 : vs.length ≤ 1599289640401 := by omega
      have n3 : fs.length ≤ 1599289640400 := by omega
      have HG := hid0 (hist_good HS.out.2 k (by omega))
      rw [← hv] at HG
      simp only at HG
      clear hlen hv
      have i1 := idx_lt ax[k].of vs.length n1
      have i2 := idx_lt ax[k].wit vs.length n1
      obtain ⟨g, off, s1, rfl, hg, hc1, hp1⟩ := hH.get (fun s => rfl) _ i1
      obtain ⟨g', off', s2, he, _, hc2, hp2⟩ := hH.get (fun s => rfl) _ i2
      cases he
      have v1 := hc1 _ rfl
      have v2 := hc2 _ rfl
      obtain ⟨b, offa, rfl, hb, ca⟩ := HS.out.1.act hH.kept k hlt
      obtain ⟨c0, c1, c2, c3, c4, c5, c6, c7, c8, c9, c10⟩ := ca
      have hgn : g ≠ wr.heap.size := Nat.ne_of_lt hg
      have j0 : (0 : Int) ≤ (idx ax[k].of vs.length : Int) := Int.natCast_nonneg _
      have j1 : (idx ax[k].of vs.length : Int) < (vs.length : Int) := by omega
      have j2 : (0 : Int) ≤ (idx ax[k].wit vs.length : Int) := Int.natCast_nonneg _
      have j3 : (idx ax[k].wit vs.length : Int) < (vs.length : Int) := by omega
      have HP := hid0 (And.intro hp1 hp2)
      have HKY := hid0 (HPL.out.ok HS.out.2 _ (List.getElem_mem hlt))
      obtain ⟨a, ha⟩ : ∃ a, a = ax[k] := ⟨_, rfl⟩
      rw [← ha] at c0 c1 c2 c3 c4 c5 c6 c7 c8 c9 c10 v1 v2 j0 j1 j2 j3 HP HKY
      have HA := hid0 ha
      clear hc1 hc2 hp1 hp2 hH i1 i2 ha
      go_wp2_with fail
      refine (index_any _ a.of vs.length n1 (by omega)).mono ?_
      rintro e w' ⟨rfl, hw⟩
      rw [hw]
      clear hw
      go_wp2_with fail
      refine (index_any _ a.wit vs.length n1 (by omega)).mono ?_
      rintro e w' ⟨rfl, hw⟩
      rw [hw]
      clear hw
      have hfd : FdAt ((wr.alloc (.cells (ac a).toArray 47)).alloc (.cells #[.int .i32 0, .int .i64 0, .bool false] 31)) (wr.heap.size + 1) fd0 := ⟨by have := alloc_new (wr.alloc (.cells (ac a).toArray 47)) (.cells #[.int .i32 0, .int .i64 0, .bool false] 31); simpa [ac, fd0] using this⟩
      have hkk : Kept Non wr ((wr.alloc (.cells (ac a).toArray 47)).alloc (.cells #[.int .i32 0, .int .i64 0, .bool false] 31)) := ((Kept.refl _ _).alloc _).alloc _
      have HFD := hid0 (And.intro hfd hkk)
      have HGG := hid0 (And.intro (GoodV.getD HG.out (idx a.of vs.length)) (GoodV.getD HG.out (idx a.wit vs.length)))
      clear hfd hkk c3 c4 c5 c6 c7 c8 c9 c10 c0 c1 c2
      have ways : bits .and .i64 a.kind 7 = 4 ∨ bits .and .i64 a.kind 7 = 5 ∨ bits .and .i64 a.kind 7 = 6 ∨ bits .and .i64 a.kind 7 = 7 ∨ (bits .and .i64 a.kind 7 ≠ 4 ∧ bits .and .i64 a.kind 7 ≠ 5 ∧ bits .and .i64 a.kind 7 ≠ 6 ∧ bits .and .i64 a.kind 7 ≠ 7) := by omega
      rcases ways with hq | hq | hq | hq | hq
      · have q4 : (bits .and .i64 a.kind 7 == 4) = true := by simpa using hq
        have HQ := hid0 hq
        obtain ⟨ho, hfr⟩ := HPL.out.at hlt (by rw [← HA.out]; exact .inl hq)
        rw [← HV.out, ← HA.out] at hfr
        rw [← HA.out] at ho
        have heq : unionI (opOf a.mix) (vs.getD (idx a.of vs.length) []) (vs.getD (idx a.wit vs.length) []) = unionS (mixV a.mix) (vs.getD (idx a.of vs.length) []) (vs.getD (idx a.wit vs.length) []) := by rw [ho]; exact unionI_some HGG.out.1.1 HGG.out.2.1 hfr
        have HEQ := hid0 heq
        clear ho hfr heq
        clear hq
        go_wp2_with fail
        refine (call_any _ a.mix).mono ?_
        rintro e W3 ⟨f, rfl, hf, g3⟩
        have HF := hid0 (And.intro hf (HFD.out.2.trans g3))
        have HF2 := hid0 (HFD.out.1.ext g3)
        clear hf g3
        go_wp2_with fail
        refine (TUnion_any _ s1 s2 _ _ (HP.out.1.ext HF.out.2) (HP.out.2.ext HF.out.2) f _ HF.out.1).mono ?_
        rintro e W4 ⟨b4, rfl, h4, g4⟩
        rw [HEQ.out] at h4
        have HX := hid0 (And.intro (HH.out.ext (HF.out.2.trans g4)) (And.intro h4 (HF2.out.ext g4)))
        clear h4 g4
        go_wp2_with (at_builtin; refine wpList_app2 rfl (.tmp 73) (.tmp 75) rfl tyT ptc_enc w.heap.size _ _ rfl (HX.out.1.own.alloc _) (W4.heap.size) (b4) rfl (new_cells (cs := ptc (b4)) (by simp)) (by have := HX.out.1.len; omega) (by decide) (by have := HX.out.1.kept.size; simp at this ⊢; omega) ?_)
        intro o5 w5 g1 g2
        have h5 := Hs.app pkH (Hs.ext pkH HX.out.1 ((Kept.refl _ _).alloc _)) (HX.out.2.1.ext ((Kept.refl _ _).alloc _)) free_T (by decide) g1 g2
        have f5 := (HX.out.2.2.ext ((Kept.refl _ _).alloc (.cells #[.pointer (some ⟨b4, 0, none⟩)] 55))).keptO g2 (fun e => by
          obtain ⟨cur, hc⟩ := (HX.out.1.own.alloc (.cells #[.pointer (some ⟨b4, 0, none⟩)] 55)).typ e
          rw [(HX.out.2.2.ext ((Kept.refl _ _).alloc (.cells #[.pointer (some ⟨b4, 0, none⟩)] 55))).blk] at hc
          simp at hc)
        have m0 := f5.c0
        have m1 := f5.c1
        have m2 := f5.c2
        simp only [fd0] at m0 m1 m2
        have H5 := hid0 (And.intro h5 f5)
        clear h5 f5 g1 g2
        go_wp2_with (at_builtin; refine wpList_app2 rfl (.tmp 77) (.tmp 79) rfl tyF fc_enc w.heap.size _ _ rfl (H5.out.1.tol.alloc _) w5.heap.size (fd0) rfl (new_cells (cs := fc (fd0)) (by simp)) (by omega) (by decide) (by have := H5.out.1.kept.size; simp; omega) ?_)
        intro t6 w6 g1 g2
        have H6 := hid0 (Hs.appF pkH (Hs.ext pkH H5.out.1 ((Kept.refl _ _).alloc _)) (by decide) g1 g2)
        clear g1 g2
        go_wp2
        go_roundg (gk - 1)
        case measure => omega
        case rel => exact ⟨k + 1, _, by omega, by go_num, by rw [hist_take ax k hlt, ← HV.out, ← HA.out, show stepH vs a = _ from by unfold stepH; rw [if_pos HQ.out]]; exact H6.out⟩
      · have q4 : (bits .and .i64 a.kind 7 == 4) = false := by rw [hq]; rfl
        have q5 : (bits .and .i64 a.kind 7 == 5) = true := by simpa using hq
        have HQ := hid0 hq
        obtain ⟨ho, hfr⟩ := HPL.out.at hlt (by rw [← HA.out]; exact .inr hq)
        rw [← HV.out, ← HA.out] at hfr
        rw [← HA.out] at ho
        have heq : interI (opOf a.mix) (vs.getD (idx a.of vs.length) []) (vs.getD (idx a.wit vs.length) []) = interS (mixV a.mix) (vs.getD (idx a.of vs.length) []) (vs.getD (idx a.wit vs.length) []) := by rw [ho]; exact interI_some HGG.out.1.1 HGG.out.2.1 hfr
        have HEQ := hid0 heq
        clear ho hfr heq
        clear hq
        go_wp2_with fail
        refine (call_any _ a.mix).mono ?_
        rintro e W3 ⟨f, rfl, hf, g3⟩
        have HF := hid0 (And.intro hf (HFD.out.2.trans g3))
        have HF2 := hid0 (HFD.out.1.ext g3)
        clear hf g3
        go_wp2_with fail
        refine (TIntersection_any _ s1 s2 _ _ (HP.out.1.ext HF.out.2) (HP.out.2.ext HF.out.2) f _ HF.out.1).mono ?_
        rintro e W4 ⟨b4, rfl, h4, g4⟩
        rw [HEQ.out] at h4
        have HX := hid0 (And.intro (HH.out.ext (HF.out.2.trans g4)) (And.intro h4 (HF2.out.ext g4)))
        clear h4 g4
        go_wp2_with (at_builtin; refine wpList_app2 rfl (.tmp 73) (.tmp 75) rfl tyT ptc_enc w.heap.size _ _ rfl (HX.out.1.own.alloc _) (W4.heap.size) (b4) rfl (new_cells (cs := ptc (b4)) (by simp)) (by have := HX.out.1.len; omega) (by decide) (by have := HX.out.1.kept.size; simp at this ⊢; omega) ?_)
        intro o5 w5 g1 g2
        have h5 := Hs.app pkH (Hs.ext pkH HX.out.1 ((Kept.refl _ _).alloc _)) (HX.out.2.1.ext ((Kept.refl _ _).alloc _)) free_T (by decide) g1 g2
        have f5 := (HX.out.2.2.ext ((Kept.refl _ _).alloc (.cells #[.pointer (some ⟨b4, 0, none⟩)] 55))).keptO g2 (fun e => by
          obtain ⟨cur, hc⟩ := (HX.out.1.own.alloc (.cells #[.pointer (some ⟨b4, 0, none⟩)] 55)).typ e
          rw [(HX.out.2.2.ext ((Kept.refl _ _).alloc (.cells #[.pointer (some ⟨b4, 0, none⟩)] 55))).blk] at hc
          simp at hc)
        have m0 := f5.c0
        have m1 := f5.c1
        have m2 := f5.c2
        simp only [fd0] at m0 m1 m2
        have H5 := hid0 (And.intro h5 f5)
        clear h5 f5 g1 g2
        go_wp2_with (at_builtin; refine wpList_app2 rfl (.tmp 77) (.tmp 79) rfl tyF fc_enc w.heap.size _ _ rfl (H5.out.1.tol.alloc _) w5.heap.size (fd0) rfl (new_cells (cs := fc (fd0)) (by simp)) (by omega) (by decide) (by have := H5.out.1.kept.size; simp; omega) ?_)
        intro t6 w6 g1 g2
        have H6 := hid0 (Hs.appF pkH (Hs.ext pkH H5.out.1 ((Kept.refl _ _).alloc _)) (by decide) g1 g2)
        clear g1 g2
        go_wp2
        go_roundg (gk - 1)
        case measure => omega
        case rel => exact ⟨k + 1, _, by omega, by go_num, by rw [hist_take ax k hlt, ← HV.out, ← HA.out, show stepH vs a = _ from by unfold stepH; rw [if_neg (by rw [HQ.out]; decide), if_pos HQ.out]]; exact H6.out⟩
      · have q4 : (bits .and .i64 a.kind 7 == 4) = false := by rw [hq]; rfl
        have q5 : (bits .and .i64 a.kind 7 == 5) = false := by rw [hq]; rfl
        have q6 : (bits .and .i64 a.kind 7 == 6) = true := by simpa using hq
        have HQ := hid0 hq
        have HEQ := hid0 (diffI_eq HGG.out.1.1 (vs.getD (idx a.wit vs.length) []) (opOf a.mix))
        clear hq
        go_wp2_with fail
        refine (call_any _ a.mix).mono ?_
        rintro e W3 ⟨f, rfl, hf, g3⟩
        have HF := hid0 (And.intro hf (HFD.out.2.trans g3))
        have HF2 := hid0 (HFD.out.1.ext g3)
        clear hf g3
        go_wp2_with fail
        refine (TDifference_any _ s1 s2 _ _ (HP.out.1.ext HF.out.2) (HP.out.2.ext HF.out.2) f _ HF.out.1).mono ?_
        rintro e W4 ⟨b4, rfl, h4, g4⟩
        rw [HEQ.out] at h4
        have HX := hid0 (And.intro (HH.out.ext (HF.out.2.trans g4)) (And.intro h4 (HF2.out.ext g4)))
        clear h4 g4
        go_wp2_with (at_builtin; refine wpList_app2 rfl (.tmp 73) (.tmp 75) rfl tyT ptc_enc w.heap.size _ _ rfl (HX.out.1.own.alloc _) (W4.heap.size) (b4) rfl (new_cells (cs := ptc (b4)) (by simp)) (by have := HX.out.1.len; omega) (by decide) (by have := HX.out.1.kept.size; simp at this ⊢; omega) ?_)
        intro o5 w5 g1 g2
        have h5 := Hs.app pkH (Hs.ext pkH HX.out.1 ((Kept.refl _ _).alloc _)) (HX.out.2.1.ext ((Kept.refl _ _).alloc _)) free_T (by decide) g1 g2
        have f5 := (HX.out.2.2.ext ((Kept.refl _ _).alloc (.cells #[.pointer (some ⟨b4, 0, none⟩)] 55))).keptO g2 (fun e => by
          obtain ⟨cur, hc⟩ := (HX.out.1.own.alloc (.cells #[.pointer (some ⟨b4, 0, none⟩)] 55)).typ e
          rw [(HX.out.2.2.ext ((Kept.refl _ _).alloc (.cells #[.pointer (some ⟨b4, 0, none⟩)] 55))).blk] at hc
          simp at hc)
        have m0 := f5.c0
        have m1 := f5.c1
        have m2 := f5.c2
        simp only [fd0] at m0 m1 m2
        have H5 := hid0 (And.intro h5 f5)
        clear h5 f5 g1 g2
        go_wp2_with (at_builtin; refine wpList_app2 rfl (.tmp 77) (.tmp 79) rfl tyF fc_enc w.heap.size _ _ rfl (H5.out.1.tol.alloc _) w5.heap.size (fd0) rfl (new_cells (cs := fc (fd0)) (by simp)) (by omega) (by decide) (by have := H5.out.1.kept.size; simp; omega) ?_)
        intro t6 w6 g1 g2
        have H6 := hid0 (Hs.appF pkH (Hs.ext pkH H5.out.1 ((Kept.refl _ _).alloc _)) (by decide) g1 g2)
        clear g1 g2
        go_wp2
        go_roundg (gk - 1)
        case measure => omega
        case rel => exact ⟨k + 1, _, by omega, by go_num, by rw [hist_take ax k hlt, ← HV.out, ← HA.out, show stepH vs a = _ from by unfold stepH; rw [if_neg (by rw [HQ.out]; decide), if_neg (by rw [HQ.out]; decide), if_pos HQ.out]]; exact H6.out⟩
      · have q4 : (bits .and .i64 a.kind 7 == 4) = false := by rw [hq]; rfl
        have q5 : (bits .and .i64 a.kind 7 == 5) = false := by rw [hq]; rfl
        have q6 : (bits .and .i64 a.kind 7 == 6) = false := by rw [hq]; rfl
        have q7 : (bits .and .i64 a.kind 7 == 7) = true := by simpa using hq
        have HQ := hid0 hq
        clear hq
        go_wp2_with fail
        refine (TCopy_any _ s1 0 _ (HP.out.1.ext HFD.out.2).at).mono ?_
        rintro e W4 ⟨rfl, h4, g4⟩
        have hs4 : ((wr.alloc (.cells (ac a).toArray 47)).alloc (.cells #[.int .i32 0, .int .i64 0, .bool false] 31)).heap.size = wr.heap.size + 1 + 1 := by simp
        rw [hs4] at h4
        have HX := hid0 (And.intro (HH.out.ext (HFD.out.2.trans g4)) (And.intro h4 (HFD.out.1.ext g4)))
        clear h4 g4 hs4
        go_wp2_with (at_builtin; refine wpList_app2 rfl (.tmp 73) (.tmp 75) rfl tyT ptc_enc w.heap.size _ _ rfl (HX.out.1.own.alloc _) (W4.heap.size) (wr.heap.size + 1 + 1) rfl (new_cells (cs := ptc (wr.heap.size + 1 + 1)) (by simp)) (by have := HX.out.1.len; omega) (by decide) (by have := HX.out.1.kept.size; simp at this ⊢; omega) ?_)
        intro o5 w5 g1 g2
        have h5 := Hs.app pkH (Hs.ext pkH HX.out.1 ((Kept.refl _ _).alloc _)) (HX.out.2.1.ext ((Kept.refl _ _).alloc _)) free_T (by decide) g1 g2
        have f5 := (HX.out.2.2.ext ((Kept.refl _ _).alloc (.cells #[.pointer (some ⟨wr.heap.size + 1 + 1, 0, none⟩)] 55))).keptO g2 (fun e => by
          obtain ⟨cur, hc⟩ := (HX.out.1.own.alloc (.cells #[.pointer (some ⟨wr.heap.size + 1 + 1, 0, none⟩)] 55)).typ e
          rw [(HX.out.2.2.ext ((Kept.refl _ _).alloc (.cells #[.pointer (some ⟨wr.heap.size + 1 + 1, 0, none⟩)] 55))).blk] at hc
          simp at hc)
        have m0 := f5.c0
        have m1 := f5.c1
        have m2 := f5.c2
        simp only [fd0] at m0 m1 m2
        have H5 := hid0 (And.intro h5 f5)
        clear h5 f5 g1 g2
        go_wp2_with (at_builtin; refine wpList_app2 rfl (.tmp 77) (.tmp 79) rfl tyF fc_enc w.heap.size _ _ rfl (H5.out.1.tol.alloc _) w5.heap.size (fd0) rfl (new_cells (cs := fc (fd0)) (by simp)) (by omega) (by decide) (by have := H5.out.1.kept.size; simp; omega) ?_)
        intro t6 w6 g1 g2
        have H6 := hid0 (Hs.appF pkH (Hs.ext pkH H5.out.1 ((Kept.refl _ _).alloc _)) (by decide) g1 g2)
        clear g1 g2
        go_wp2
        go_roundg (gk - 1)
        case measure => omega
        case rel => exact ⟨k + 1, _, by omega, by go_num, by rw [hist_take ax k hlt, ← HV.out, ← HA.out, show stepH vs a = _ from by unfold stepH; rw [if_neg (by rw [HQ.out]; decide), if_neg (by rw [HQ.out]; decide), if_neg (by rw [HQ.out]; decide), if_pos HQ.out]]; exact H6.out⟩
      · have q4 : (bits .and .i64 a.kind 7 == 4) = false := by simpa using hq.1
        have q5 : (bits .and .i64 a.kind 7 == 5) = false := by simpa using hq.2.1
        have q6 : (bits .and .i64 a.kind 7 == 6) = false := by simpa using hq.2.2.1
        have q7 : (bits .and .i64 a.kind 7 == 7) = false := by simpa using hq.2.2.2
        have HQ := hid0 hq
        clear hq
        obtain ⟨f, hf⟩ : ∃ f, f = (upd (vs.getD (idx a.of vs.length) []) a).2 := ⟨_, rfl⟩
        have HF := hid0 hf
        obtain ⟨f0, f1, f2⟩ := f
        clear hf
        obtain ⟨T1, t1, t2⟩ := HP.out.1.ex
        obtain ⟨u1, fu1⟩ := ptr_form T1
        have hz : ∀ o1 o2, ((wr.alloc o1).alloc o2).heap[s1]? = some (.cells #[.pointer u1, .int .i64 (vs.getD (idx a.of vs.length) []).length] 78 (0, 0)) := fun o1 o2 => ((((Kept.refl Non wr).alloc o1).alloc o2).block s1 (block_lt t1) (fun h => h)).trans (by rw [t1, tObj, fu1])
        have z0 : ∀ o1 o2, ((wr.alloc o1).alloc o2).cell? ⟨s1, 0, none⟩ = some (.pointer u1) := fun o1 o2 => by rw [cell_of (hz o1 o2)]; rfl
        have z1 : ∀ o1 o2, ((wr.alloc o1).alloc o2).cell? ⟨s1, 1, none⟩ = some (.int .i64 (vs.getD (idx a.of vs.length) []).length) := fun o1 o2 => by rw [cell_of (hz o1 o2)]; rfl
        have hv4 : ∀ W, W = ((wr.alloc (.cells (ac a).toArray 47)).alloc (.cells #[.int .i32 0, .int .i64 0, .bool false] 31)).alloc (.cells #[.pointer u1, .int .i64 (vs.getD (idx a.of vs.length) []).length] 78) → Head W (wr.heap.size + 1 + 1) (vs.getD (idx a.of vs.length) []) := fun W hW => by
          subst hW
          refine ⟨T1, ?_, t2.ext (HFD.out.2.alloc _)⟩
          rw [fu1, show wr.heap.size + 1 + 1 = ((wr.alloc (.cells (ac a).toArray 47)).alloc (.cells #[.int .i32 0, .int .i64 0, .bool false] 31)).heap.size from by simp]
          exact alloc_new _ _
        have HV4 := hid0 hv4
        have hlt1 : s1 < wr.heap.size := HP.out.1.lt
        have hn1 : s1 ≠ wr.heap.size := by omega
        have hn2 : s1 ≠ wr.heap.size + 1 := by omega
        clear t1 t2 hv4 hz
        go_wp2_with fail
        refine (update_any _ (wr.heap.size + 1 + 1) _ a (HV4.out _ rfl) HKY.out).mono ?_
        rintro e W4 ⟨rfl, h4, g4⟩
        rw [← HF.out]
        simp only [fv]
        have d4 : FdAt W4 (wr.heap.size + 1) fd0 := (HFD.out.1.ext ((Kept.refl _ _).alloc _)).keptO g4 (fun e => by have e' : wr.heap.size + 1 = wr.heap.size + 1 + 1 := e; omega)
        have hK4 : Kept Non wr W4 := (HFD.out.2.alloc _).trans' g4 (fun i hi e => by have e' : i = wr.heap.size + 1 + 1 := e; omega)
        have r0 := d4.c0
        have r1 := d4.c1
        have r2 := d4.c2
        have rf := d4.fz
        simp only [fd0] at r0 r1 r2
        have hk3 : Kept (One (wr.heap.size + 1)) W4 (((W4.setCell ⟨wr.heap.size + 1, 0, none⟩ (.int .i32 f0)).setCell ⟨wr.heap.size + 1, 1, none⟩ (.int .i64 f1)).setCell ⟨wr.heap.size + 1, 2, none⟩ (.bool f2)) := FdAt.setK (g := (f0, f1, f2))
        have HX := hid0 (And.intro (HH.out.ext (hK4.trans' hk3 (fun i hi e => by have e' : i = wr.heap.size + 1 := e; omega))) (And.intro (h4.free hk3 d4.freeS) (d4.set (g := (f0, f1, f2)))))
        clear h4 g4 d4 hK4 hk3 z0 z1
        go_wp2_with (at_builtin; refine wpList_app2 rfl (.tmp 73) (.tmp 75) rfl tyT ptc_enc w.heap.size _ _ rfl (HX.out.1.own.alloc _) (W4.heap.size) (wr.heap.size + 1 + 1) rfl (new_cells (cs := ptc (wr.heap.size + 1 + 1)) (by simp)) (by have := HX.out.1.len; omega) (by decide) (by have := HX.out.1.kept.size; simp at this ⊢; omega) ?_)
        intro o5 w5 g1 g2
        have h5 := Hs.app pkH (Hs.ext pkH HX.out.1 ((Kept.refl _ _).alloc _)) (HX.out.2.1.ext ((Kept.refl _ _).alloc _)) free_T (by decide) g1 g2
        have f5 := (HX.out.2.2.ext ((Kept.refl _ _).alloc (.cells #[.pointer (some ⟨wr.heap.size + 1 + 1, 0, none⟩)] 55))).keptO g2 (fun e => by
          obtain ⟨cur, hc⟩ := (HX.out.1.own.alloc (.cells #[.pointer (some ⟨wr.heap.size + 1 + 1, 0, none⟩)] 55)).typ e
          rw [(HX.out.2.2.ext ((Kept.refl _ _).alloc (.cells #[.pointer (some ⟨wr.heap.size + 1 + 1, 0, none⟩)] 55))).blk] at hc
          simp at hc)
        have m0 := f5.c0
        have m1 := f5.c1
        have m2 := f5.c2
        simp only at m0 m1 m2
        have H5 := hid0 (And.intro h5 f5)
        clear h5 f5 g1 g2
        go_wp2_with (at_builtin; refine wpList_app2 rfl (.tmp 77) (.tmp 79) rfl tyF fc_enc w.heap.size _ _ rfl (H5.out.1.tol.alloc _) w5.heap.size (f0, f1, f2) rfl (new_cells (cs := fc (f0, f1, f2)) (by simp)) (by omega) (by decide) (by have := H5.out.1.kept.size; simp; omega) ?_)
        intro t6 w6 g1 g2
        have H6 := hid0 (Hs.appF pkH (Hs.ext pkH H5.out.1 ((Kept.refl _ _).alloc _)) (by decide) g1 g2)
        clear g1 g2
        go_wp2
        go_roundg (gk - 1)
        case measure => omega
        case rel => exact ⟨k + 1, _, by omega, by go_num, by rw [hist_take ax k hlt, ← HV.out, ← HA.out, show stepH vs a = ((upd (vs.getD (idx a.of vs.length) []) a).1, (f0, f1, f2)) from by unfold stepH; rw [if_neg HQ.out.1, if_neg HQ.out.2.1, if_neg HQ.out.2.2.1, if_neg HQ.out.2.2.2, HF.out]]; exact H6.out⟩
    · have HE : Hid (ax.take k = ax) := List.take_of_length_le (by omega)
      rw [HE.out] at HV
      go_wp2
      go_ret2
      exact ⟨_, _, vals, rfl, by rw [← HV.out]; exact HH.out⟩

end Go.Proofs.Ytehegllgaiehfaa
