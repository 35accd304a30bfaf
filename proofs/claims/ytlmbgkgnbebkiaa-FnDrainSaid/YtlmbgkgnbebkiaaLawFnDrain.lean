/- The walk of FnDrain. -/
import Derived.Test.YtlmbgkgnbebkiaaDr
import Derived.Test.YtlmbgkgnbebkiaaHist
import Derived.Test.YtlmbgkgnbebkiaaDrop
import Derived.Test.YtlmbgkgnbebkiaaFnd2
namespace Go.Proofs.Ytlmbgkgnbebkiaa
open Go.RowKit

set_option maxRecDepth 100000 in
set_option maxHeartbeats 1000000 in
theorem FnDrain_walk (w : World) (vp : Value) (p : Ps) (hp : SlP w vp p) (lp : p.length ≤ 8796093021952) (wp : KeysW p) (_dp : DataR p) (vhs : Value) (hs : List Bool) (hhs : SlB w vhs hs) (lhs : hs.length ≤ 140737488351232) (_whs : True) (_dhs : True) :
    Calls Try.prog 6 #[vp, vhs] w fun e w' => e = .returned (.bool true) ∧ Kept Non w w' := by
  obtain ⟨ha, hc, rfl⟩ := hhs.form
  have HWp := hid0 wp
  have G0 := hid0 (And.intro (Kept.refl Non w) (And.intro hp hhs))
  have hlp : (treeP p).length ≤ 4294967296 := by
    have := treeP_len wp p.length
    rwa [List.take_length] at this
  clear hp wp hhs
  cases hkp : keyedB p with
  | false =>
    have HKp := hid0 hkp
    clear hkp
    go_enter Try.func6, Try.ntmps6
    go_wp2_with fail
    refine (keyed_any _ _ p G0.out.2.1 (by omega)).mono ?_
    rintro e W1 ⟨rfl, g⟩
    have G1 := hid0 (And.intro (G0.out.1.trans g) (And.intro (G0.out.2.1.ext g) (G0.out.2.2.ext g)))
    clear g G0
    rw [HKp.out]
    go_wp2
    go_ret
    exact ⟨rfl, G1.out.1⟩
  | true =>
    have HKp := hid0 hkp
    clear hkp
    go_enter Try.func6, Try.ntmps6
    go_wp2_with fail
    refine (keyed_any _ _ p G0.out.2.1 (by omega)).mono ?_
    rintro e W1 ⟨rfl, g⟩
    have G1 := hid0 (And.intro (G0.out.1.trans g) (And.intro (G0.out.2.1.ext g) (G0.out.2.2.ext g)))
    clear g G0
    rw [HKp.out]
    go_wp2_with fail
    refine (Tree_any _ _ p G1.out.2.1 (by omega) HWp.out).mono ?_
    rintro e W2 ⟨tv, rfl, o, g⟩
    obtain ⟨st, rfl, pt⟩ := OwnP.pv o
    have G2 := hid0 (And.intro (G1.out.1.trans g) (And.intro (G1.out.2.1.ext g) (And.intro (G1.out.2.2.ext g) pt)))
    clear g o pt G1
    have hDr := fun (W : World) (h1 : SlP W vp p) (h2 : SlB W (.slice ha hs.length hc) hs) => Drain_any W vp _ p hs h1 (by omega) (HWp.out.ok HKp.out) h2 lhs
    have HUp := hid0 (up_treeP p)
    obtain ⟨xs, hxs⟩ : ∃ xs, xs = treeP p := ⟨_, rfl⟩
    rw [← hxs] at hDr hlp G2 HUp
    obtain ⟨Z, hZ⟩ : ∃ Z, Z = drainF hs xs.length 0 xs := ⟨_, rfl⟩
    rw [← hZ] at hDr
    have HZ0 := hid0 hZ
    have HDr := hid0 hDr
    clear hDr hxs hZ
    go_wp2
    go_loopg [5, 6] (xs.length) (fun n s o wr => ∃ (qs rs : Ps) (sh : Sh), n = rs.length ∧ s = shv sh ∧ Z = qs ++ drainF hs rs.length qs.length rs ∧ qs.length + rs.length = xs.length ∧ Up rs ∧ PV wr sh rs ∧ OwnF W2.heap.size wr o (qs.map tf) ∧ Kept Non W2 wr)
    case atStart => exact ⟨[], xs, st, rfl, rfl, HZ0.out, by simp, HUp.out, G2.out.2.2.2, Own.nil _, Kept.refl _ _⟩
    case round =>
      obtain ⟨qs, rs, ⟨x1, y1, z1⟩, rfl, rfl, hz, hql, hup, hP, hO, hK⟩ := hrel
      obtain ⟨oa, oc, rfl⟩ : ∃ a c, u6 = .slice a qs.length c := by
        obtain ⟨a, c, e⟩ := OwnF.form hO
        exact ⟨a, c, by rw [e, List.length_map]⟩
      obtain rfl : y1 = rs.length := by
        obtain ⟨a, c, e⟩ := hP.sl.form
        simp only [shv, Value.slice.injEq] at e
        exact e.2.1
      simp only [shv]
      have HZ := hid0 hz
      have HUP := hid0 hup
      have HX0 := hid0 (And.intro hP (And.intro hO hK))
      have HO0 : Hid (∀ {b}, OwnS (.slice oa qs.length oc) b → b < wr.heap.size) := fun hb => hO.ltS hb
      have hsz := hK.size
      have HL : Hid ((qs.map tf).length + 1 ≤ 4294967297) := by
        show _ ≤ _
        rw [List.length_map]
        omega
      clear hz hup
      by_cases hne : rs.length = 0
      · have hre : rs = [] := List.length_eq_zero_iff.1 hne
        subst hre
        have hZq : Z = qs := by have := HZ.out; simpa [drainF] using this
        have HZQ := hid0 hZq
        clear hP hO hK hne hZq
        go_wp2_with fail
        refine (HDr.out _ (G2.out.2.1.ext HX0.out.2.2) (G2.out.2.2.1.ext HX0.out.2.2)).mono ?_
        rintro e W3 ⟨v3, rfl, o3, g3⟩
        have H3 := hid0 (And.intro (OwnF.sl o3) (And.intro (OwnF.sl (HX0.out.2.1.ext' g3)) ((G2.out.1.trans HX0.out.2.2).trans g3)))
        clear o3 g3
        go_wp2_with fail
        refine (SameFound_any _ _ _ (Z.map tf) (qs.map tf) H3.out.1 H3.out.2.1 (by rw [List.length_map, HZQ.out]; simp at hql; omega)).mono ?_
        rintro e W4 ⟨rfl, g4⟩
        rw [decide_eq_true (by rw [HZQ.out])]
        have H4 := hid0 (H3.out.2.2.trans g4)
        clear g4
        go_wp2
        go_ret
        exact ⟨rfl, H4.out⟩
      · have hpos : (0 : Int) < (rs.length : Int) := by omega
        clear hP hO hK
        go_wp2_with fail
        refine (Least_any _ _ rs HX0.out.1.sl).mono ?_
        rintro e W3 ⟨rfl, g3⟩
        have HP3 := hid0 (And.intro (HX0.out.1.ext g3) (And.intro (HX0.out.2.1.ext' g3) (HX0.out.2.2.trans g3)))
        have hs3 := g3.size
        clear g3
        obtain ⟨f, hfd⟩ : ∃ f, f = fdOf rs.head? := ⟨_, rfl⟩
        rw [← hfd]
        obtain ⟨f0, f1, f2⟩ := f
        simp only [fv]
        have hkA : Kept Non W3 (W3.alloc (.cells #[.int .i32 f0, .int .i64 f1, .bool f2] 36)) := (Kept.refl _ _).alloc _
        have HKA := hid0 hkA
        clear hkA
        have HHS := hid0 (G2.out.2.2.1.ext HP3.out.2.2)
        by_cases h0 : hs.length = 0
        · have hz : ¬ (0 < (hs.length : Int)) := by omega
          have HHI := hid0 (hiAt_nil h0 qs.length)
          clear h0
          obtain ⟨q, hq⟩ := head_some hne
          have HQ := hid0 hq
          rw [hq] at hfd
          simp only [fdOf] at hfd
          have hf := hfd
          clear hq hfd
          obtain ⟨rfl, rfl, rfl⟩ : q.1 = f0 ∧ q.2 = f1 ∧ true = f2 := by simpa [Prod.mk.injEq, eq_comm] using hf
          clear hf
          have HX := hid0 (And.intro (HP3.out.1.ext HKA.out) (And.intro (HP3.out.2.1.ext' HKA.out) (And.intro (show FdAt (W3.alloc (.cells #[.int .i32 q.1, .int .i64 q.2, .bool true] 36)) W3.heap.size (q.1, q.2, true) from ⟨alloc_new _ _⟩) (HP3.out.2.2.trans HKA.out))))
          go_wp2_with (at_builtin; refine wpList_app2 rfl (.tmp 33) (.tmp 35) rfl tyF fc_enc W2.heap.size _ _ rfl (HX.out.2.1.alloc _) (W3.heap.size + 1) (tf q) rfl (new_cells (cs := fc (tf q)) (by simp)) (by have := HL.out; omega) (by decide) (by have := HX.out.2.2.2.size; simp at this ⊢; omega) ?_)
          intro o5 w5 g1 g2
          have hkA : ∀ W : World, Kept Non W (W.alloc (.cells #[.int .i32 q.1, .int .i64 q.2, .bool true] 36)) := fun W => (Kept.refl _ _).alloc _
          have p5 := (HX.out.1.ext (hkA _)).free g2 ((HX.out.2.1.alloc _).free free_F)
          have f5 := (HX.out.2.2.1.ext (hkA _)).keptO g2 (fun e => by have := HO0.out e; omega)
          have k5 : Kept Non W2 w5 := (HX.out.2.2.2.trans (hkA _)).trans' g2 (fun i hi e => by have := HX.out.2.1.block i e; omega)
          have m0 := f5.c0
          simp only at m0
          have H5 := hid0 (And.intro p5 (And.intro g1 k5))
          clear p5 f5 k5 g1 g2 hkA
          go_wp2_with fail
          refine (Drop_any _ _ rs q.1 H5.out.1.sl (by omega)).mono ?_
          rintro e w6 ⟨v6, rfl, o6, g6⟩
          obtain ⟨s6, rfl, p6⟩ := OwnP.pv o6
          have hdr : drop q.1 rs = rs.tail := drop_min HUP.out _ (fun a ha => by rw [HQ.out] at ha; cases ha; rfl)
          rw [hdr] at p6
          have H6 := hid0 (And.intro p6 (And.intro (H5.out.2.1.ext' g6) (H5.out.2.2.trans g6)))
          clear p6 o6 g6 hdr m0
          go_wp2
          go_roundg ((rs.tail).length)
          case measure => have := hne; simp; omega
          case rel => exact ⟨qs ++ [q], rs.tail, s6, rfl, rfl, by rw [HZ.out, show rs.length = (rs.tail).length + 1 from by have := hne; simp; omega, drain_min HHI.out HQ.out]; simp, by have := hql; simp; omega, List.Pairwise.sublist (List.tail_sublist _) HUP.out, H6.out.1, by rw [List.map_append]; exact H6.out.2.1, H6.out.2.2⟩
        · have hz : 0 < hs.length := by omega
          have hmod : qs.length % hs.length < hs.length := Nat.mod_lt _ hz
          have hm : (qs.length : Int).tmod (hs.length : Int) = ((qs.length % hs.length : Nat) : Int) := rfl
          obtain ⟨p, hp⟩ : ∃ p, p = qs.length % hs.length := ⟨_, rfl⟩
          rw [← hp] at hm hmod
          have HHI := hid0 (hiAt_mod h0 hp hmod)
          have hnz : (hs.length : Int) ≠ 0 := by omega
          have hi0 : (0 : Int) ≤ (p : Int) := Int.natCast_nonneg _
          have hi1 : (p : Int) < (hs.length : Int) := by omega
          obtain ⟨b5, off5, rfl, hb5, c5⟩ := HHS.out.bool (Kept.refl _ _) p hmod
          have hb6 : b5 ≠ W3.heap.size := by have := hb5; omega
          clear hp h0
          cases hv : hs[p] with
          | false =>
            rw [hv] at c5 HHI
            clear hv
            obtain ⟨q, hq⟩ := head_some hne
            have HQ := hid0 hq
            rw [hq] at hfd
            simp only [fdOf] at hfd
            have hf := hfd
            clear hq hfd
            obtain ⟨rfl, rfl, rfl⟩ : q.1 = f0 ∧ q.2 = f1 ∧ true = f2 := by simpa [Prod.mk.injEq, eq_comm] using hf
            clear hf
            have HX := hid0 (And.intro (HP3.out.1.ext HKA.out) (And.intro (HP3.out.2.1.ext' HKA.out) (And.intro (show FdAt (W3.alloc (.cells #[.int .i32 q.1, .int .i64 q.2, .bool true] 36)) W3.heap.size (q.1, q.2, true) from ⟨alloc_new _ _⟩) (HP3.out.2.2.trans HKA.out))))
            go_wp2_with (at_builtin; refine wpList_app2 rfl (.tmp 33) (.tmp 35) rfl tyF fc_enc W2.heap.size _ _ rfl (HX.out.2.1.alloc _) (W3.heap.size + 1) (tf q) rfl (new_cells (cs := fc (tf q)) (by simp)) (by have := HL.out; omega) (by decide) (by have := HX.out.2.2.2.size; simp at this ⊢; omega) ?_)
            intro o5 w5 g1 g2
            have hkA : ∀ W : World, Kept Non W (W.alloc (.cells #[.int .i32 q.1, .int .i64 q.2, .bool true] 36)) := fun W => (Kept.refl _ _).alloc _
            have p5 := (HX.out.1.ext (hkA _)).free g2 ((HX.out.2.1.alloc _).free free_F)
            have f5 := (HX.out.2.2.1.ext (hkA _)).keptO g2 (fun e => by have := HO0.out e; omega)
            have k5 : Kept Non W2 w5 := (HX.out.2.2.2.trans (hkA _)).trans' g2 (fun i hi e => by have := HX.out.2.1.block i e; omega)
            have m0 := f5.c0
            simp only at m0
            have H5 := hid0 (And.intro p5 (And.intro g1 k5))
            clear p5 f5 k5 g1 g2 hkA
            go_wp2_with fail
            refine (Drop_any _ _ rs q.1 H5.out.1.sl (by omega)).mono ?_
            rintro e w6 ⟨v6, rfl, o6, g6⟩
            obtain ⟨s6, rfl, p6⟩ := OwnP.pv o6
            have hdr : drop q.1 rs = rs.tail := drop_min HUP.out _ (fun a ha => by rw [HQ.out] at ha; cases ha; rfl)
            rw [hdr] at p6
            have H6 := hid0 (And.intro p6 (And.intro (H5.out.2.1.ext' g6) (H5.out.2.2.trans g6)))
            clear p6 o6 g6 hdr m0
            go_wp2
            go_roundg ((rs.tail).length)
            case measure => have := hne; simp; omega
            case rel => exact ⟨qs ++ [q], rs.tail, s6, rfl, rfl, by rw [HZ.out, show rs.length = (rs.tail).length + 1 from by have := hne; simp; omega, drain_min HHI.out HQ.out]; simp, by have := hql; simp; omega, List.Pairwise.sublist (List.tail_sublist _) HUP.out, H6.out.1, by rw [List.map_append]; exact H6.out.2.1, H6.out.2.2⟩
          | true =>
            rw [hv] at c5 HHI
            clear hv
            obtain ⟨q, hq⟩ := last_some hne
            have HQ := hid0 hq
            clear hq hfd
            go_wp2_with fail
            refine (Greatest_any _ _ rs (HP3.out.1.sl.ext HKA.out) (by omega)).mono ?_
            rintro e W4 ⟨rfl, g4⟩
            rw [HQ.out]
            simp only [fdOf, fv]
            have d4 : FdAt W4 W3.heap.size (f0, f1, f2) := FdAt.ext ⟨alloc_new _ _⟩ g4
            have r0 := d4.c0
            have r1 := d4.c1
            have r2 := d4.c2
            have rf := d4.fz
            simp only at r0 r1 r2
            have hk4 : Kept (One W3.heap.size) W4 (((W4.setCell ⟨W3.heap.size, 0, none⟩ (.int .i32 q.1)).setCell ⟨W3.heap.size, 1, none⟩ (.int .i64 q.2)).setCell ⟨W3.heap.size, 2, none⟩ (.bool true)) := FdAt.setK (g := (q.1, q.2, true))
            have HX := hid0 (And.intro ((HP3.out.1.ext (HKA.out.trans g4)).free hk4 d4.freeS) (And.intro ((HP3.out.2.1.ext' (HKA.out.trans g4)).keptS hk4 (fun c hc e => by have e' : c = W3.heap.size := e; have := HO0.out hc; omega)) (And.intro (d4.set (g := (q.1, q.2, true))) ((HP3.out.2.2.trans (HKA.out.trans g4)).trans' hk4 (fun i hi e => by have e' : i = W3.heap.size := e; have := HP3.out.2.2.size; omega)))))
            clear d4 hk4 g4
            go_wp2_with (at_builtin; refine wpList_app2 rfl (.tmp 33) (.tmp 35) rfl tyF fc_enc W2.heap.size _ _ rfl (HX.out.2.1.alloc _) (W4.heap.size) (tf q) rfl (new_cells (cs := fc (tf q)) (by simp)) (by have := HL.out; omega) (by decide) (by have := HX.out.2.2.2.size; simp at this ⊢; omega) ?_)
            intro o5 w5 g1 g2
            have hkA : ∀ W : World, Kept Non W (W.alloc (.cells #[.int .i32 q.1, .int .i64 q.2, .bool true] 36)) := fun W => (Kept.refl _ _).alloc _
            have p5 := (HX.out.1.ext (hkA _)).free g2 ((HX.out.2.1.alloc _).free free_F)
            have f5 := (HX.out.2.2.1.ext (hkA _)).keptO g2 (fun e => by have := HO0.out e; omega)
            have k5 : Kept Non W2 w5 := (HX.out.2.2.2.trans (hkA _)).trans' g2 (fun i hi e => by have := HX.out.2.1.block i e; omega)
            have m0 := f5.c0
            simp only at m0
            have H5 := hid0 (And.intro p5 (And.intro g1 k5))
            clear p5 f5 k5 g1 g2 hkA
            go_wp2_with fail
            refine (Drop_any _ _ rs q.1 H5.out.1.sl (by omega)).mono ?_
            rintro e w6 ⟨v6, rfl, o6, g6⟩
            obtain ⟨s6, rfl, p6⟩ := OwnP.pv o6
            have hdr : drop q.1 rs = rs.dropLast := drop_max HUP.out _ (fun a ha => by rw [HQ.out] at ha; cases ha; rfl)
            rw [hdr] at p6
            have H6 := hid0 (And.intro p6 (And.intro (H5.out.2.1.ext' g6) (H5.out.2.2.trans g6)))
            clear p6 o6 g6 hdr m0
            go_wp2
            go_roundg ((rs.dropLast).length)
            case measure => have := hne; simp; omega
            case rel => exact ⟨qs ++ [q], rs.dropLast, s6, rfl, rfl, by rw [HZ.out, show rs.length = (rs.dropLast).length + 1 from by have := hne; simp; omega, drain_max HHI.out HQ.out]; simp, by have := hql; simp; omega, List.Pairwise.sublist (List.dropLast_sublist _) HUP.out, H6.out.1, by rw [List.map_append]; exact H6.out.2.1, H6.out.2.2⟩

end Go.Proofs.Ytlmbgkgnbebkiaa
