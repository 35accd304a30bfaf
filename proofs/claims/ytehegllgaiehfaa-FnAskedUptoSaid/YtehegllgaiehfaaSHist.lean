/- spec.History. -/
import Derived.Test.YtehegllgaiehfaaHist
namespace Go.Proofs.Ytehegllgaiehfaa
open Go.RowKit

abbrev HsS := @Hs Sh shc 22 PV
theorem pkV : PK PV := fun _ _ _ _ _ a b c => a.free b c
theorem HsS.ext {w W W' : World} {o t : Value} {vals : List Sh} {vs : List Ps} {fs : List Fd} (h : HsS w W o t vals vs fs) (hk : Kept Non W W') : HsS w W' o t vals vs fs := Hs.ext pkV h hk
/-- versions, and what has been told -/
def SHist (w : World) (h : List Ps × List Fd) (e : Ending) (w' : World) : Prop := ∃ o t vals, e = .returned (.tuple #[o, t]) ∧ HsS w w' o t vals h.1 h.2

set_option maxRecDepth 100000 in
set_option maxHeartbeats 2000000 in
theorem History_any (w : World) (v : Value) (ax : List Ac) (h : SlA w v ax) (hl : ax.length ≤ 1599289640400) (hw : ActsW ax) : Calls Try.prog 19 #[v] w (SHist w (hist ax)) := by
  obtain ⟨a, cap, rfl⟩ := h.form
  have HS := hid0 (And.intro h hw)
  clear h hw
  go_enter Try.func19, Try.ntmps19
  go_wp2
  go_loopg [4, 5, 15] (ax.length) (fun n o t i wr => ∃ (k : Nat) (vals : List Sh), k + n = ax.length ∧ i = .int .i64 k ∧ HsS w wr o t vals (hist (ax.take k)).1 (hist (ax.take k)).2)
  case atStart =>
    refine ⟨0, [(some ⟨w.heap.size, 0, none⟩, 0, 0)], by simp, rfl, ?_⟩
    simp only [List.take_zero]
    refine ⟨⟨rfl, .inr ⟨w.heap.size + 1, 1, #[shv (some ⟨w.heap.size, 0, none⟩, 0, 0)], rfl, by omega, ?_, by simp, by decide, rfl, rfl⟩⟩, rfl, ?_, Own.nil _, ((Kept.refl _ _).alloc _).alloc _⟩
    · have := alloc_new (w.alloc (.cells #[] 27)) (.cells #[shv (some ⟨w.heap.size, 0, none⟩, 0, 0)] 22)
      simpa [shv] using this
    · intro i s xs hs hx
      have : i = 0 := by
        have := (List.getElem?_eq_some_iff.1 hs).1
        simpa using this
      subst this
      simp [hist] at hs hx
      subst hs hx
      exact ⟨⟨_, 0, rfl, fun i x hx => by simp at hx⟩, fun hx => absurd rfl hx⟩
  case round =>
    obtain ⟨k, vals, hk, rfl, hH⟩ := hrel
    obtain ⟨⟨vs, fs⟩, hv⟩ : ∃ H, H = hist (ax.take k) := ⟨_, rfl⟩
    have HV := hid0 hv
    rw [← hv] at hH
    simp only at hH
    obtain ⟨⟨oa, oc, rfl⟩, ta, tc, rfl⟩ := hH.form (fun s => rfl)
    have HH := hid0 hH
    have hsz := hH.kept.size
    by_cases hlt : k < ax.length
    · have hlen := hist_len ax k (by omega)
      rw [← hv] at hlen
      simp only at hlen
      have n1 : 0 < vs.length := by omega
      have n2 : vs.length ≤ 1599289640401 := by omega
      have n3 : fs.length ≤ 1599289640400 := by omega
      have HG := hid0 (hist_good HS.out.2 k (by omega))
      rw [← hv] at HG
      simp only at HG
      clear hlen hv
      have i1 := idx_lt ax[k].of vs.length n1
      have i2 := idx_lt ax[k].wit vs.length n1
      obtain ⟨g, off, s1, rfl, hg, hc1, hp1⟩ := hH.get (fun s => rfl) _ i1
      obtain ⟨g', off', s2, he, _, hc2, hp2⟩ := hH.get (fun s => rfl) _ i2
      cases he
      obtain ⟨x1, y1, z1⟩ := s1
      obtain ⟨x2, y2, z2⟩ := s2
      have v1 := hc1 _ rfl
      have v2 := hc2 _ rfl
      simp only [shv] at v1 v2
      obtain ⟨b, offa, rfl, hb, ca⟩ := HS.out.1.act hH.kept k hlt
      obtain ⟨c0, c1, c2, c3, c4, c5, c6, c7, c8, c9, c10⟩ := ca
      have hgn : g ≠ wr.heap.size := Nat.ne_of_lt hg
      have j0 : (0 : Int) ≤ (idx ax[k].of vs.length : Int) := Int.natCast_nonneg _
      have j1 : (idx ax[k].of vs.length : Int) < (vs.length : Int) := by omega
      have j2 : (0 : Int) ≤ (idx ax[k].wit vs.length : Int) := Int.natCast_nonneg _
      have j3 : (idx ax[k].wit vs.length : Int) < (vs.length : Int) := by omega
      have HP := hid0 (And.intro hp1 hp2)
      obtain ⟨a, ha⟩ : ∃ a, a = ax[k] := ⟨_, rfl⟩
      rw [← ha] at c0 c1 c2 c3 c4 c5 c6 c7 c8 c9 c10 v1 v2 j0 j1 j2 j3 HP
      have HA := hid0 ha
      clear hc1 hc2 hp1 hp2 hH i1 i2 ha
      go_wp2_with fail
      refine (SIndex_any _ a.of vs.length n1 (by omega)).mono ?_
      rintro e w' ⟨rfl, hw⟩
      rw [hw]
      clear hw
      go_wp2_with fail
      refine (SIndex_any _ a.wit vs.length n1 (by omega)).mono ?_
      rintro e w' ⟨rfl, hw⟩
      rw [hw]
      clear hw
      have hfd : FdAt ((wr.alloc (.cells (ac a).toArray 47)).alloc (.cells #[.int .i32 0, .int .i64 0, .bool false] 31)) (wr.heap.size + 1) fd0 := ⟨by have := alloc_new (wr.alloc (.cells (ac a).toArray 47)) (.cells #[.int .i32 0, .int .i64 0, .bool false] 31); simpa [ac, fd0] using this⟩
      have hkk : Kept Non wr ((wr.alloc (.cells (ac a).toArray 47)).alloc (.cells #[.int .i32 0, .int .i64 0, .bool false] 31)) := ((Kept.refl _ _).alloc _).alloc _
      have HFD := hid0 (And.intro hfd hkk)
      have HGG := hid0 (And.intro (GoodV.getD HG.out (idx a.of vs.length)) (GoodV.getD HG.out (idx a.wit vs.length)))
      clear hfd hkk c3 c4 c5 c6 c7 c8 c9 c10 c0 c1 c2
      have ways : bits .and .i64 a.kind 7 = 4 ∨ bits .and .i64 a.kind 7 = 5 ∨ bits .and .i64 a.kind 7 = 6 ∨ bits .and .i64 a.kind 7 = 7 ∨ (bits .and .i64 a.kind 7 ≠ 4 ∧ bits .and .i64 a.kind 7 ≠ 5 ∧ bits .and .i64 a.kind 7 ≠ 6 ∧ bits .and .i64 a.kind 7 ≠ 7) := by omega
      rcases ways with hq | hq | hq | hq | hq
      · have q4 : (bits .and .i64 a.kind 7 == 4) = true := by simpa using hq
        have HQ := hid0 hq
        clear hq
        go_wp2_with fail
        refine (Union_any _ _ _ _ _ a.mix (HP.out.1.sl.ext HFD.out.2) (HP.out.2.sl.ext HFD.out.2) HGG.out.1.2 HGG.out.2.2 HGG.out.1.len HGG.out.2.len).mono ?_
        rintro e W3 ⟨v3, rfl, o3, g3⟩
        obtain ⟨⟨x3, y3, z3⟩, rfl, p3⟩ := OwnP.pv o3
        simp only [shv]
        have HX := hid0 (And.intro (HH.out.ext (HFD.out.2.trans g3)) (And.intro p3 (HFD.out.1.ext g3)))
        clear o3 g3 p3
        go_wp2_with (at_builtin; refine wpList_app2 rfl (.tmp 68) (.tmp 70) rfl tyV shc_enc w.heap.size _ _ rfl (HX.out.1.own.alloc _) (W3.heap.size) (x3, y3, z3) rfl (new_cells (cs := shc (x3, y3, z3)) (by simp)) (by have := HX.out.1.len; omega) (by decide) (by have := HX.out.1.kept.size; simp at this ⊢; omega) ?_)
        intro o5 w5 g1 g2
        have h5 := Hs.app pkV (Hs.ext pkV HX.out.1 ((Kept.refl _ _).alloc _)) (HX.out.2.1.ext ((Kept.refl _ _).alloc _)) free_V (by decide) g1 g2
        have f5 := (HX.out.2.2.ext ((Kept.refl _ _).alloc (.cells #[.slice x3 y3 z3] 22))).keptO g2 (fun e => by
          obtain ⟨cur, hc⟩ := (HX.out.1.own.alloc (.cells #[.slice x3 y3 z3] 22)).typ e
          rw [(HX.out.2.2.ext ((Kept.refl _ _).alloc (.cells #[.slice x3 y3 z3] 22))).blk] at hc
          simp at hc)
        have m0 := f5.c0
        have m1 := f5.c1
        have m2 := f5.c2
        simp only [fd0] at m0 m1 m2
        have H5 := hid0 (And.intro h5 f5)
        clear h5 f5 g1 g2
        go_wp2_with (at_builtin; refine wpList_app2 rfl (.tmp 72) (.tmp 74) rfl tyF fc_enc w.heap.size _ _ rfl (H5.out.1.tol.alloc _) w5.heap.size (fd0) rfl (new_cells (cs := fc (fd0)) (by simp)) (by omega) (by decide) (by have := H5.out.1.kept.size; simp; omega) ?_)
        intro t6 w6 g1 g2
        have H6 := hid0 (Hs.appF pkV (Hs.ext pkV H5.out.1 ((Kept.refl _ _).alloc _)) (by decide) g1 g2)
        clear g1 g2
        go_wp2
        go_roundg (gk - 1)
        case measure => omega
        case rel => exact ⟨k + 1, _, by omega, by go_num, by rw [hist_take ax k hlt, ← HV.out, ← HA.out, show stepH vs a = _ from by unfold stepH; rw [if_pos HQ.out]]; exact H6.out⟩
      · have q4 : (bits .and .i64 a.kind 7 == 4) = false := by rw [hq]; rfl
        have q5 : (bits .and .i64 a.kind 7 == 5) = true := by simpa using hq
        have HQ := hid0 hq
        clear hq
        go_wp2_with fail
        refine (Intersection_any _ _ _ _ _ a.mix (HP.out.1.sl.ext HFD.out.2) (HP.out.2.sl.ext HFD.out.2) HGG.out.1.len HGG.out.2.len).mono ?_
        rintro e W3 ⟨v3, rfl, o3, g3⟩
        obtain ⟨⟨x3, y3, z3⟩, rfl, p3⟩ := OwnP.pv o3
        simp only [shv]
        have HX := hid0 (And.intro (HH.out.ext (HFD.out.2.trans g3)) (And.intro p3 (HFD.out.1.ext g3)))
        clear o3 g3 p3
        go_wp2_with (at_builtin; refine wpList_app2 rfl (.tmp 68) (.tmp 70) rfl tyV shc_enc w.heap.size _ _ rfl (HX.out.1.own.alloc _) (W3.heap.size) (x3, y3, z3) rfl (new_cells (cs := shc (x3, y3, z3)) (by simp)) (by have := HX.out.1.len; omega) (by decide) (by have := HX.out.1.kept.size; simp at this ⊢; omega) ?_)
        intro o5 w5 g1 g2
        have h5 := Hs.app pkV (Hs.ext pkV HX.out.1 ((Kept.refl _ _).alloc _)) (HX.out.2.1.ext ((Kept.refl _ _).alloc _)) free_V (by decide) g1 g2
        have f5 := (HX.out.2.2.ext ((Kept.refl _ _).alloc (.cells #[.slice x3 y3 z3] 22))).keptO g2 (fun e => by
          obtain ⟨cur, hc⟩ := (HX.out.1.own.alloc (.cells #[.slice x3 y3 z3] 22)).typ e
          rw [(HX.out.2.2.ext ((Kept.refl _ _).alloc (.cells #[.slice x3 y3 z3] 22))).blk] at hc
          simp at hc)
        have m0 := f5.c0
        have m1 := f5.c1
        have m2 := f5.c2
        simp only [fd0] at m0 m1 m2
        have H5 := hid0 (And.intro h5 f5)
        clear h5 f5 g1 g2
        go_wp2_with (at_builtin; refine wpList_app2 rfl (.tmp 72) (.tmp 74) rfl tyF fc_enc w.heap.size _ _ rfl (H5.out.1.tol.alloc _) w5.heap.size (fd0) rfl (new_cells (cs := fc (fd0)) (by simp)) (by omega) (by decide) (by have := H5.out.1.kept.size; simp; omega) ?_)
        intro t6 w6 g1 g2
        have H6 := hid0 (Hs.appF pkV (Hs.ext pkV H5.out.1 ((Kept.refl _ _).alloc _)) (by decide) g1 g2)
        clear g1 g2
        go_wp2
        go_roundg (gk - 1)
        case measure => omega
        case rel => exact ⟨k + 1, _, by omega, by go_num, by rw [hist_take ax k hlt, ← HV.out, ← HA.out, show stepH vs a = _ from by unfold stepH; rw [if_neg (by rw [HQ.out]; decide), if_pos HQ.out]]; exact H6.out⟩
      · have q4 : (bits .and .i64 a.kind 7 == 4) = false := by rw [hq]; rfl
        have q5 : (bits .and .i64 a.kind 7 == 5) = false := by rw [hq]; rfl
        have q6 : (bits .and .i64 a.kind 7 == 6) = true := by simpa using hq
        have HQ := hid0 hq
        clear hq
        go_wp2_with fail
        refine (Difference_any _ _ _ _ _ a.mix (HP.out.1.sl.ext HFD.out.2) (HP.out.2.sl.ext HFD.out.2) HGG.out.1.len HGG.out.2.len).mono ?_
        rintro e W3 ⟨v3, rfl, o3, g3⟩
        obtain ⟨⟨x3, y3, z3⟩, rfl, p3⟩ := OwnP.pv o3
        simp only [shv]
        have HX := hid0 (And.intro (HH.out.ext (HFD.out.2.trans g3)) (And.intro p3 (HFD.out.1.ext g3)))
        clear o3 g3 p3
        go_wp2_with (at_builtin; refine wpList_app2 rfl (.tmp 68) (.tmp 70) rfl tyV shc_enc w.heap.size _ _ rfl (HX.out.1.own.alloc _) (W3.heap.size) (x3, y3, z3) rfl (new_cells (cs := shc (x3, y3, z3)) (by simp)) (by have := HX.out.1.len; omega) (by decide) (by have := HX.out.1.kept.size; simp at this ⊢; omega) ?_)
        intro o5 w5 g1 g2
        have h5 := Hs.app pkV (Hs.ext pkV HX.out.1 ((Kept.refl _ _).alloc _)) (HX.out.2.1.ext ((Kept.refl _ _).alloc _)) free_V (by decide) g1 g2
        have f5 := (HX.out.2.2.ext ((Kept.refl _ _).alloc (.cells #[.slice x3 y3 z3] 22))).keptO g2 (fun e => by
          obtain ⟨cur, hc⟩ := (HX.out.1.own.alloc (.cells #[.slice x3 y3 z3] 22)).typ e
          rw [(HX.out.2.2.ext ((Kept.refl _ _).alloc (.cells #[.slice x3 y3 z3] 22))).blk] at hc
          simp at hc)
        have m0 := f5.c0
        have m1 := f5.c1
        have m2 := f5.c2
        simp only [fd0] at m0 m1 m2
        have H5 := hid0 (And.intro h5 f5)
        clear h5 f5 g1 g2
        go_wp2_with (at_builtin; refine wpList_app2 rfl (.tmp 72) (.tmp 74) rfl tyF fc_enc w.heap.size _ _ rfl (H5.out.1.tol.alloc _) w5.heap.size (fd0) rfl (new_cells (cs := fc (fd0)) (by simp)) (by omega) (by decide) (by have := H5.out.1.kept.size; simp; omega) ?_)
        intro t6 w6 g1 g2
        have H6 := hid0 (Hs.appF pkV (Hs.ext pkV H5.out.1 ((Kept.refl _ _).alloc _)) (by decide) g1 g2)
        clear g1 g2
        go_wp2
        go_roundg (gk - 1)
        case measure => omega
        case rel => exact ⟨k + 1, _, by omega, by go_num, by rw [hist_take ax k hlt, ← HV.out, ← HA.out, show stepH vs a = _ from by unfold stepH; rw [if_neg (by rw [HQ.out]; decide), if_neg (by rw [HQ.out]; decide), if_pos HQ.out]]; exact H6.out⟩
      · have q4 : (bits .and .i64 a.kind 7 == 4) = false := by rw [hq]; rfl
        have q5 : (bits .and .i64 a.kind 7 == 5) = false := by rw [hq]; rfl
        have q6 : (bits .and .i64 a.kind 7 == 6) = false := by rw [hq]; rfl
        have q7 : (bits .and .i64 a.kind 7 == 7) = true := by simpa using hq
        have HQ := hid0 hq
        clear hq
        have HX := hid0 (And.intro (HH.out.ext HFD.out.2) (And.intro (HP.out.1.ext HFD.out.2) HFD.out.1))
        go_wp2_with (at_builtin; refine wpList_app2 rfl (.tmp 68) (.tmp 70) rfl tyV shc_enc w.heap.size _ _ rfl (HX.out.1.own.alloc _) (wr.heap.size + 1 + 1) (x1, y1, z1) rfl (new_cells (cs := shc (x1, y1, z1)) (by simp)) (by have := HX.out.1.len; omega) (by decide) (by have := HX.out.1.kept.size; simp at this ⊢; omega) ?_)
        intro o5 w5 g1 g2
        have h5 := Hs.app pkV (Hs.ext pkV HX.out.1 ((Kept.refl _ _).alloc _)) (HX.out.2.1.ext ((Kept.refl _ _).alloc _)) free_V (by decide) g1 g2
        have f5 := (HX.out.2.2.ext ((Kept.refl _ _).alloc (.cells #[.slice x1 y1 z1] 22))).keptO g2 (fun e => by
          obtain ⟨cur, hc⟩ := (HX.out.1.own.alloc (.cells #[.slice x1 y1 z1] 22)).typ e
          rw [(HX.out.2.2.ext ((Kept.refl _ _).alloc (.cells #[.slice x1 y1 z1] 22))).blk] at hc
          simp at hc)
        have m0 := f5.c0
        have m1 := f5.c1
        have m2 := f5.c2
        simp only [fd0] at m0 m1 m2
        have H5 := hid0 (And.intro h5 f5)
        clear h5 f5 g1 g2
        go_wp2_with (at_builtin; refine wpList_app2 rfl (.tmp 72) (.tmp 74) rfl tyF fc_enc w.heap.size _ _ rfl (H5.out.1.tol.alloc _) w5.heap.size (fd0) rfl (new_cells (cs := fc (fd0)) (by simp)) (by omega) (by decide) (by have := H5.out.1.kept.size; simp; omega) ?_)
        intro t6 w6 g1 g2
        have H6 := hid0 (Hs.appF pkV (Hs.ext pkV H5.out.1 ((Kept.refl _ _).alloc _)) (by decide) g1 g2)
        clear g1 g2
        go_wp2
        go_roundg (gk - 1)
        case measure => omega
        case rel => exact ⟨k + 1, _, by omega, by go_num, by rw [hist_take ax k hlt, ← HV.out, ← HA.out, show stepH vs a = _ from by unfold stepH; rw [if_neg (by rw [HQ.out]; decide), if_neg (by rw [HQ.out]; decide), if_neg (by rw [HQ.out]; decide), if_pos HQ.out]]; exact H6.out⟩
      · have q4 : (bits .and .i64 a.kind 7 == 4) = false := by simpa using hq.1
        have q5 : (bits .and .i64 a.kind 7 == 5) = false := by simpa using hq.2.1
        have q6 : (bits .and .i64 a.kind 7 == 6) = false := by simpa using hq.2.2.1
        have q7 : (bits .and .i64 a.kind 7 == 7) = false := by simpa using hq.2.2.2
        have HQ := hid0 hq
        clear hq
        obtain ⟨f, hf⟩ : ∃ f, f = (upd (vs.getD (idx a.of vs.length) []) a).2 := ⟨_, rfl⟩
        have HF := hid0 hf
        obtain ⟨f0, f1, f2⟩ := f
        clear hf
        go_wp2_with fail
        refine (Update_any _ _ _ a (HP.out.1.sl.ext HFD.out.2) HGG.out.1.len).mono ?_
        rintro e W3 ⟨v3, rfl, o3, g3⟩
        rw [← HF.out]
        simp only [fv]
        obtain ⟨⟨x3, y3, z3⟩, rfl, p3⟩ := OwnP.pv o3
        simp only [shv]
        have d3 := HFD.out.1.ext g3
        have r0 := d3.c0
        have r1 := d3.c1
        have r2 := d3.c2
        have rf := d3.fz
        simp only [fd0] at r0 r1 r2
        have hk3 : Kept (One (wr.heap.size + 1)) W3 (((W3.setCell ⟨wr.heap.size + 1, 0, none⟩ (.int .i32 f0)).setCell ⟨wr.heap.size + 1, 1, none⟩ (.int .i64 f1)).setCell ⟨wr.heap.size + 1, 2, none⟩ (.bool f2)) := FdAt.setK (g := (f0, f1, f2))
        have h3 := HH.out.ext (HFD.out.2.trans g3)
        have HX := hid0 (And.intro (Hs.free pkV h3 hk3 d3.freeS (fun c hc e => by have e' : c = wr.heap.size + 1 := e; have := HH.out.own.ltS hc; omega) (fun c hc e => by have e' : c = wr.heap.size + 1 := e; have := HH.out.tol.ltS hc; omega) (fun c hc e => by have e' : c = wr.heap.size + 1 := e; omega)) (And.intro (p3.free hk3 d3.freeS) (d3.set (g := (f0, f1, f2)))))
        clear o3 g3 p3 d3 hk3 h3
        go_wp2_with (at_builtin; refine wpList_app2 rfl (.tmp 68) (.tmp 70) rfl tyV shc_enc w.heap.size _ _ rfl (HX.out.1.own.alloc _) (W3.heap.size) (x3, y3, z3) rfl (new_cells (cs := shc (x3, y3, z3)) (by simp)) (by have := HX.out.1.len; omega) (by decide) (by have := HX.out.1.kept.size; simp at this ⊢; omega) ?_)
        intro o5 w5 g1 g2
        have h5 := Hs.app pkV (Hs.ext pkV HX.out.1 ((Kept.refl _ _).alloc _)) (HX.out.2.1.ext ((Kept.refl _ _).alloc _)) free_V (by decide) g1 g2
        have f5 := (HX.out.2.2.ext ((Kept.refl _ _).alloc (.cells #[.slice x3 y3 z3] 22))).keptO g2 (fun e => by
          obtain ⟨cur, hc⟩ := (HX.out.1.own.alloc (.cells #[.slice x3 y3 z3] 22)).typ e
          rw [(HX.out.2.2.ext ((Kept.refl _ _).alloc (.cells #[.slice x3 y3 z3] 22))).blk] at hc
          simp at hc)
        have m0 := f5.c0
        have m1 := f5.c1
        have m2 := f5.c2
        simp only at m0 m1 m2
        have H5 := hid0 (And.intro h5 f5)
        clear h5 f5 g1 g2
        go_wp2_with (at_builtin; refine wpList_app2 rfl (.tmp 72) (.tmp 74) rfl tyF fc_enc w.heap.size _ _ rfl (H5.out.1.tol.alloc _) w5.heap.size (f0, f1, f2) rfl (new_cells (cs := fc (f0, f1, f2)) (by simp)) (by omega) (by decide) (by have := H5.out.1.kept.size; simp; omega) ?_)
        intro t6 w6 g1 g2
        have H6 := hid0 (Hs.appF pkV (Hs.ext pkV H5.out.1 ((Kept.refl _ _).alloc _)) (by decide) g1 g2)
        clear g1 g2
        go_wp2
        go_roundg (gk - 1)
        case measure => omega
        case rel => exact ⟨k + 1, _, by omega, by go_num, by rw [hist_take ax k hlt, ← HV.out, ← HA.out, show stepH vs a = ((upd (vs.getD (idx a.of vs.length) []) a).1, (f0, f1, f2)) from by unfold stepH; rw [if_neg HQ.out.1, if_neg HQ.out.2.1, if_neg HQ.out.2.2.1, if_neg HQ.out.2.2.2, HF.out]]; exact H6.out⟩
    · have HE : Hid (ax.take k = ax) := List.take_of_length_le (by omega)
      rw [HE.out] at HV
      go_wp2
      go_ret2
      exact ⟨_, _, vals, rfl, by rw [← HV.out]; exact HH.out⟩

end Go.Proofs.Ytehegllgaiehfaa
