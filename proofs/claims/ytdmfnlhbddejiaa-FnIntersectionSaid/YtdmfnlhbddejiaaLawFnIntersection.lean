/- The walk of FnIntersection. -/
import Derived.Test.YtdmfnlhbddejiaaImplU
namespace Go.Proofs.Ytdmfnlhbddejiaa
open Go.RowKit

set_option maxRecDepth 100000 in
set_option maxHeartbeats 4000000 in
theorem FnIntersection_walk (w : World) (vp : Value) (p : Ps) (hp : SlP w vp p) (lp : p.length ≤ 8796093021952) (wp : KeysW p) (dp : DataR p) (vq : Value) (q : Ps) (hq : SlP w vq q) (lq : q.length ≤ 8796093021952) (wq : KeysW q) (dq : DataR q) (m : Mx) (_rm : MxR m) :
    Calls Try.prog 5 #[vp, vq, mxv m] w fun e w' => e = .returned (.bool true) ∧ Kept Non w w' := by
  have HWp := hid0 wp
  have HDp := hid0 dp
  have HWq := hid0 wq
  have HDq := hid0 dq
  have G0 := hid0 (And.intro (Kept.refl Non w) (And.intro (hp) (hq)))
  have HLp := hid0 (treeP_len0 wp)
  have HLq := hid0 (treeP_len0 wq)
  clear hp wp dp hq wq dq
  obtain ⟨no, ma, mb, mc, md, rs⟩ := m
  simp only [mxv]
  cases hkp : keyedB p with
  | false =>
    have HKp := hid0 hkp
    clear hkp
    go_enter Try.func5, Try.ntmps5
    go_wp2_with fail
    refine (keyed_any _ _ p (G0.out.2.1.ext ((Kept.refl _ _).alloc _)) (by omega)).mono ?_
    rintro e W1 ⟨rfl, g⟩
    have G1 := hid0 (And.intro ((G0.out.1.alloc _).trans g) (And.intro ((G0.out.2.1.ext ((Kept.refl _ _).alloc _)).ext g) (And.intro ((G0.out.2.2.ext ((Kept.refl _ _).alloc _)).ext g) ((MixAt.ext (m := ⟨no, ma, mb, mc, md, rs⟩) ⟨alloc_new _ _⟩ g)))))
    clear g G0
    rw [HKp.out]
    go_wp2
    go_ret
    exact ⟨rfl, G1.out.1⟩
  | true =>
    have HKp := hid0 hkp
    clear hkp
    cases hkq : keyedB q with
    | false =>
      have HKq := hid0 hkq
      clear hkq
      go_enter Try.func5, Try.ntmps5
      go_wp2_with fail
      refine (keyed_any _ _ p (G0.out.2.1.ext ((Kept.refl _ _).alloc _)) (by omega)).mono ?_
      rintro e W1 ⟨rfl, g⟩
      have G1 := hid0 (And.intro ((G0.out.1.alloc _).trans g) (And.intro ((G0.out.2.1.ext ((Kept.refl _ _).alloc _)).ext g) (And.intro ((G0.out.2.2.ext ((Kept.refl _ _).alloc _)).ext g) ((MixAt.ext (m := ⟨no, ma, mb, mc, md, rs⟩) ⟨alloc_new _ _⟩ g)))))
      clear g G0
      rw [HKp.out]
      go_wp2_with fail
      refine (keyed_any _ _ q G1.out.2.2.1 (by omega)).mono ?_
      rintro e W2 ⟨rfl, g⟩
      have G2 := hid0 (And.intro (G1.out.1.trans g) (And.intro (G1.out.2.1.ext g) (And.intro (G1.out.2.2.1.ext g) (G1.out.2.2.2.ext g))))
      clear g G1
      rw [HKq.out]
      go_wp2
      go_ret
      exact ⟨rfl, G2.out.1⟩
    | true =>
      have HKq := hid0 hkq
      clear hkq
      cases no with
      | true =>
        go_enter Try.func5, Try.ntmps5
        go_wp2_with fail
        refine (keyed_any _ _ p (G0.out.2.1.ext ((Kept.refl _ _).alloc _)) (by omega)).mono ?_
        rintro e W1 ⟨rfl, g⟩
        have G1 := hid0 (And.intro ((G0.out.1.alloc _).trans g) (And.intro ((G0.out.2.1.ext ((Kept.refl _ _).alloc _)).ext g) (And.intro ((G0.out.2.2.ext ((Kept.refl _ _).alloc _)).ext g) ((MixAt.ext (m := ⟨true, ma, mb, mc, md, rs⟩) ⟨alloc_new _ _⟩ g)))))
        clear g G0
        rw [HKp.out]
        go_wp2_with fail
        refine (keyed_any _ _ q G1.out.2.2.1 (by omega)).mono ?_
        rintro e W2 ⟨rfl, g⟩
        have G2 := hid0 (And.intro (G1.out.1.trans g) (And.intro (G1.out.2.1.ext g) (And.intro (G1.out.2.2.1.ext g) (G1.out.2.2.2.ext g))))
        clear g G1
        rw [HKq.out]
        have m0 := G2.out.2.2.2.cells.c0
        simp only at m0
        go_wp2
        go_ret
        exact ⟨rfl, G2.out.1⟩
      | false =>
        go_enter Try.func5, Try.ntmps5
        go_wp2_with fail
        refine (keyed_any _ _ p (G0.out.2.1.ext ((Kept.refl _ _).alloc _)) (by omega)).mono ?_
        rintro e W1 ⟨rfl, g⟩
        have G1 := hid0 (And.intro ((G0.out.1.alloc _).trans g) (And.intro ((G0.out.2.1.ext ((Kept.refl _ _).alloc _)).ext g) (And.intro ((G0.out.2.2.ext ((Kept.refl _ _).alloc _)).ext g) ((MixAt.ext (m := ⟨false, ma, mb, mc, md, rs⟩) ⟨alloc_new _ _⟩ g)))))
        clear g G0
        rw [HKp.out]
        go_wp2_with fail
        refine (keyed_any _ _ q G1.out.2.2.1 (by omega)).mono ?_
        rintro e W2 ⟨rfl, g⟩
        have G2 := hid0 (And.intro (G1.out.1.trans g) (And.intro (G1.out.2.1.ext g) (And.intro (G1.out.2.2.1.ext g) (G1.out.2.2.2.ext g))))
        clear g G1
        rw [HKq.out]
        obtain ⟨m0, m1, m2, m3, m4, m5⟩ := G2.out.2.2.2.cells
        try simp only at m0 m1 m2 m3 m4 m5
        go_wp2_with fail
        refine (Tree_any _ _ p G2.out.2.1 (by omega) HWp.out).mono ?_
        rintro e W3 ⟨tv, rfl, o, g⟩
        obtain ⟨ta, tc, rfl⟩ := (OwnP.sl o).form
        have G3 := hid0 (And.intro (G2.out.1.trans g) (And.intro (G2.out.2.1.ext g) (And.intro (G2.out.2.2.1.ext g) (And.intro (G2.out.2.2.2.ext g) (OwnP.sl o)))))
        clear g o m0 m1 m2 m3 m4 m5 G2
        go_wp2_with fail
        refine (Tree_any _ _ q G3.out.2.2.1 (by omega) HWq.out).mono ?_
        rintro e W4 ⟨uv, rfl, o, g⟩
        obtain ⟨ua, uc, rfl⟩ := (OwnP.sl o).form
        have G4 := hid0 (And.intro (G3.out.1.trans g) (And.intro (G3.out.2.1.ext g) (And.intro (G3.out.2.2.1.ext g) (And.intro (G3.out.2.2.2.1.ext g) (And.intro (G3.out.2.2.2.2.ext g) (OwnP.sl o))))))
        clear g o G3
        obtain ⟨m0, m1, m2, m3, m4, m5⟩ := G4.out.2.2.2.1.cells
        try simp only at m0 m1 m2 m3 m4 m5
        cases hfr : freshB (mixV ⟨false, ma, mb, mc, md, rs⟩) (treeP p) (treeP q)
        · have HFR := hid0 hfr
          clear hfr
          go_wp2_with fail
          refine (fresh_any _ _ _ (treeP p) (treeP q) ⟨false, ma, mb, mc, md, rs⟩ G4.out.2.2.2.2.1 G4.out.2.2.2.2.2 HLp.out HLq.out).mono ?_
          rintro e W5 ⟨rfl, g⟩
          have G5 := hid0 (And.intro (G4.out.1.trans g) (And.intro (G4.out.2.1.ext g) (And.intro (G4.out.2.2.1.ext g) (And.intro (G4.out.2.2.2.1.ext g) (And.intro (G4.out.2.2.2.2.1.ext g) (G4.out.2.2.2.2.2.ext g))))))
          clear g m0 m1 m2 m3 m4 m5 G4
          rw [HFR.out]
          go_wp2
          go_ret
          exact ⟨rfl, G5.out.1⟩
        · have HFR := hid0 hfr
          clear hfr
          go_wp2_with fail
          refine (fresh_any _ _ _ (treeP p) (treeP q) ⟨false, ma, mb, mc, md, rs⟩ G4.out.2.2.2.2.1 G4.out.2.2.2.2.2 HLp.out HLq.out).mono ?_
          rintro e W5 ⟨rfl, g⟩
          have G5 := hid0 (And.intro (G4.out.1.trans g) (And.intro (G4.out.2.1.ext g) (And.intro (G4.out.2.2.1.ext g) (And.intro (G4.out.2.2.2.1.ext g) (And.intro (G4.out.2.2.2.2.1.ext g) (G4.out.2.2.2.2.2.ext g))))))
          clear g m0 m1 m2 m3 m4 m5 G4
          rw [HFR.out]
          have HEQ : Hid (interI (opOf ⟨false, ma, mb, mc, md, rs⟩) (treeP p) (treeP q) = interS (mixV ⟨false, ma, mb, mc, md, rs⟩) (treeP p) (treeP q)) := interI_some (up_treeP p) (up_treeP q) (freshB_fresh HFR.out)
          obtain ⟨m0, m1, m2, m3, m4, m5⟩ := G5.out.2.2.2.1.cells
          try simp only at m0 m1 m2 m3 m4 m5
          go_wp2_with fail
          refine (IIntersection_any _ _ _ (p) (q) ⟨false, ma, mb, mc, md, rs⟩ G5.out.2.1 G5.out.2.2.1 (by omega) (by omega) (HWp.out.ok HKp.out) (HWq.out.ok HKq.out)).mono ?_
          rintro e W6 ⟨xv, cv, dv, rfl, s1, s2, s3, s4, g⟩
          obtain ⟨xa, xc, rfl⟩ := s1.form
          obtain ⟨ca, cc, rfl⟩ := s2.form
          obtain ⟨da, dc, rfl⟩ := s3.form
          have HOx := hid0 s4
          have G6 := hid0 (And.intro (G5.out.1.trans g) (And.intro (G5.out.2.1.ext g) (And.intro (G5.out.2.2.1.ext g) (And.intro (G5.out.2.2.2.1.ext g) (And.intro (G5.out.2.2.2.2.1.ext g) (And.intro (G5.out.2.2.2.2.2.ext g) (And.intro (s1) (And.intro (s2) (s3)))))))))
          clear g s1 s2 s3 s4 m0 m1 m2 m3 m4 m5 G5
          obtain ⟨m0, m1, m2, m3, m4, m5⟩ := G6.out.2.2.2.1.cells
          try simp only at m0 m1 m2 m3 m4 m5
          go_wp2_with fail
          refine (Intersection_any _ _ _ (treeP p) (treeP q) ⟨false, ma, mb, mc, md, rs⟩ G6.out.2.2.2.2.1 G6.out.2.2.2.2.2.1 HLp.out HLq.out).mono ?_
          rintro e W7 ⟨sv, rfl, o, g⟩
          obtain ⟨sa, sc, rfl⟩ := (OwnP.sl o).form
          have G7 := hid0 (And.intro (G6.out.1.trans g) (And.intro (G6.out.2.1.ext g) (And.intro (G6.out.2.2.1.ext g) (And.intro (G6.out.2.2.2.1.ext g) (And.intro (G6.out.2.2.2.2.1.ext g) (And.intro (G6.out.2.2.2.2.2.1.ext g) (And.intro (G6.out.2.2.2.2.2.2.1.ext g) (And.intro (G6.out.2.2.2.2.2.2.2.1.ext g) (And.intro (G6.out.2.2.2.2.2.2.2.2.ext g) (OwnP.sl o))))))))))
          clear g o m0 m1 m2 m3 m4 m5 G6
          go_wp2_with fail
          refine (Same_any _ _ _ (interI (opOf ⟨false, ma, mb, mc, md, rs⟩) (treeP p) (treeP q)) (interS (mixV ⟨false, ma, mb, mc, md, rs⟩) (treeP p) (treeP q)) G7.out.2.2.2.2.2.2.1 G7.out.2.2.2.2.2.2.2.2.2 (by have := Ok.length HOx.out; omega)).mono ?_
          rintro e W8 ⟨rfl, g⟩
          have G8 := hid0 (And.intro (G7.out.1.trans g) (And.intro (G7.out.2.1.ext g) (And.intro (G7.out.2.2.1.ext g) (And.intro (G7.out.2.2.2.1.ext g) (And.intro (G7.out.2.2.2.2.1.ext g) (And.intro (G7.out.2.2.2.2.2.1.ext g) (And.intro (G7.out.2.2.2.2.2.2.1.ext g) (And.intro (G7.out.2.2.2.2.2.2.2.1.ext g) (And.intro (G7.out.2.2.2.2.2.2.2.2.1.ext g) (G7.out.2.2.2.2.2.2.2.2.2.ext g))))))))))
          clear g G7
          rw [decide_eq_true (HEQ.out)]
          go_wp2_with fail
          refine (Same_any _ _ _ (treeP p) (treeP p) G8.out.2.2.2.2.2.2.2.1 G8.out.2.2.2.2.1 (by have := HLp.out; omega)).mono ?_
          rintro e W9 ⟨rfl, g⟩
          have G9 := hid0 (And.intro (G8.out.1.trans g) (And.intro (G8.out.2.1.ext g) (And.intro (G8.out.2.2.1.ext g) (And.intro (G8.out.2.2.2.1.ext g) (And.intro (G8.out.2.2.2.2.1.ext g) (And.intro (G8.out.2.2.2.2.2.1.ext g) (And.intro (G8.out.2.2.2.2.2.2.1.ext g) (And.intro (G8.out.2.2.2.2.2.2.2.1.ext g) (And.intro (G8.out.2.2.2.2.2.2.2.2.1.ext g) (G8.out.2.2.2.2.2.2.2.2.2.ext g))))))))))
          clear g G8
          rw [decide_eq_true (rfl)]
          go_wp2_with fail
          refine (Same_any _ _ _ (treeP q) (treeP q) G9.out.2.2.2.2.2.2.2.2.1 G9.out.2.2.2.2.2.1 (by have := HLq.out; omega)).mono ?_
          rintro e W10 ⟨rfl, g⟩
          have G10 := hid0 (And.intro (G9.out.1.trans g) (And.intro (G9.out.2.1.ext g) (And.intro (G9.out.2.2.1.ext g) (And.intro (G9.out.2.2.2.1.ext g) (And.intro (G9.out.2.2.2.2.1.ext g) (And.intro (G9.out.2.2.2.2.2.1.ext g) (And.intro (G9.out.2.2.2.2.2.2.1.ext g) (And.intro (G9.out.2.2.2.2.2.2.2.1.ext g) (And.intro (G9.out.2.2.2.2.2.2.2.2.1.ext g) (G9.out.2.2.2.2.2.2.2.2.2.ext g))))))))))
          clear g G9
          rw [decide_eq_true (rfl)]
          go_wp2
          go_ret
          exact ⟨rfl, G10.out.1⟩

end Go.Proofs.Ytdmfnlhbddejiaa
