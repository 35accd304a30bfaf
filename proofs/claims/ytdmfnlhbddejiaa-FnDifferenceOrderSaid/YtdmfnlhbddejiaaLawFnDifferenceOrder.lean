/- The walk of FnDifferenceOrder. -/
import Derived.Test.YtdmfnlhbddejiaaImplU
namespace Go.Proofs.Ytdmfnlhbddejiaa
open Go.RowKit

set_option maxRecDepth 100000 in
set_option maxHeartbeats 4000000 in
theorem FnDifferenceOrder_walk (w : World) (vp : Value) (p : Ps) (hp : SlP w vp p) (lp : p.length ≤ 8796093021952) (wp : KeysW p) (dp : DataR p) (vq : Value) (q : Ps) (hq : SlP w vq q) (lq : q.length ≤ 8796093021952) (wq : KeysW q) (dq : DataR q) (m : Mx) (_rm : MxR m) :
    Calls Try.prog 4 #[vp, vq, mxv m] w fun e w' => e = .returned (.bool true) ∧ Kept Non w w' := by
  have HWp := hid0 wp
  have HDp := hid0 dp
  have HWq := hid0 wq
  have HDq := hid0 dq
  have G0 := hid0 (And.intro (Kept.refl Non w) (And.intro (hp) (hq)))
  have HLp := hid0 (treeP_len0 wp)
  have HLq := hid0 (treeP_len0 wq)
  clear hp wp dp hq wq dq
  obtain ⟨no, ma, mb, mc, md, rs⟩ := m
  simp only [mxv]
  cases hkp : keyedB p with
  | false =>
    have HKp := hid0 hkp
    clear hkp
    go_enter Try.func4, Try.ntmps4
    go_wp2_with fail
    refine (keyed_any _ _ p (G0.out.2.1.ext ((Kept.refl _ _).alloc _)) (by omega)).mono ?_
    rintro e W1 ⟨rfl, g⟩
    have G1 := hid0 (And.intro ((G0.out.1.alloc _).trans g) (And.intro ((G0.out.2.1.ext ((Kept.refl _ _).alloc _)).ext g) (And.intro ((G0.out.2.2.ext ((Kept.refl _ _).alloc _)).ext g) ((MixAt.ext (m := ⟨no, ma, mb, mc, md, rs⟩) ⟨alloc_new _ _⟩ g)))))
    clear g G0
    rw [HKp.out]
    go_wp2
    go_ret
    exact ⟨rfl, G1.out.1⟩
  | true =>
    have HKp := hid0 hkp
    clear hkp
    cases hkq : keyedB q with
    | false =>
      have HKq := hid0 hkq
      clear hkq
      go_enter Try.func4, Try.ntmps4
      go_wp2_with fail
      refine (keyed_any _ _ p (G0.out.2.1.ext ((Kept.refl _ _).alloc _)) (by omega)).mono ?_
      rintro e W1 ⟨rfl, g⟩
      have G1 := hid0 (And.intro ((G0.out.1.alloc _).trans g) (And.intro ((G0.out.2.1.ext ((Kept.refl _ _).alloc _)).ext g) (And.intro ((G0.out.2.2.ext ((Kept.refl _ _).alloc _)).ext g) ((MixAt.ext (m := ⟨no, ma, mb, mc, md, rs⟩) ⟨alloc_new _ _⟩ g)))))
      clear g G0
      rw [HKp.out]
      go_wp2_with fail
      refine (keyed_any _ _ q G1.out.2.2.1 (by omega)).mono ?_
      rintro e W2 ⟨rfl, g⟩
      have G2 := hid0 (And.intro (G1.out.1.trans g) (And.intro (G1.out.2.1.ext g) (And.intro (G1.out.2.2.1.ext g) (G1.out.2.2.2.ext g))))
      clear g G1
      rw [HKq.out]
      go_wp2
      go_ret
      exact ⟨rfl, G2.out.1⟩
    | true =>
      have HKq := hid0 hkq
      clear hkq
      go_enter Try.func4, Try.ntmps4
      go_wp2_with fail
      refine (keyed_any _ _ p (G0.out.2.1.ext ((Kept.refl _ _).alloc _)) (by omega)).mono ?_
      rintro e W1 ⟨rfl, g⟩
      have G1 := hid0 (And.intro ((G0.out.1.alloc _).trans g) (And.intro ((G0.out.2.1.ext ((Kept.refl _ _).alloc _)).ext g) (And.intro ((G0.out.2.2.ext ((Kept.refl _ _).alloc _)).ext g) ((MixAt.ext (m := ⟨no, ma, mb, mc, md, rs⟩) ⟨alloc_new _ _⟩ g)))))
      clear g G0
      rw [HKp.out]
      go_wp2_with fail
      refine (keyed_any _ _ q G1.out.2.2.1 (by omega)).mono ?_
      rintro e W2 ⟨rfl, g⟩
      have G2 := hid0 (And.intro (G1.out.1.trans g) (And.intro (G1.out.2.1.ext g) (And.intro (G1.out.2.2.1.ext g) (G1.out.2.2.2.ext g))))
      clear g G1
      rw [HKq.out]
      go_wp2_with fail
      refine (Tree_any _ _ p G2.out.2.1 (by omega) HWp.out).mono ?_
      rintro e W3 ⟨tv, rfl, o, g⟩
      obtain ⟨ta, tc, rfl⟩ := (OwnP.sl o).form
      have G3 := hid0 (And.intro (G2.out.1.trans g) (And.intro (G2.out.2.1.ext g) (And.intro (G2.out.2.2.1.ext g) (And.intro (G2.out.2.2.2.ext g) (OwnP.sl o)))))
      clear g o G2
      go_wp2_with fail
      refine (Tree_any _ _ q G3.out.2.2.1 (by omega) HWq.out).mono ?_
      rintro e W4 ⟨uv, rfl, o, g⟩
      obtain ⟨ua, uc, rfl⟩ := (OwnP.sl o).form
      have G4 := hid0 (And.intro (G3.out.1.trans g) (And.intro (G3.out.2.1.ext g) (And.intro (G3.out.2.2.1.ext g) (And.intro (G3.out.2.2.2.1.ext g) (And.intro (G3.out.2.2.2.2.ext g) (OwnP.sl o))))))
      clear g o G3
      have HEQ := hid0 (diffI_eq (up_treeP p) (treeP q) (opOf ⟨no, ma, mb, mc, md, rs⟩))
      obtain ⟨m0, m1, m2, m3, m4, m5⟩ := G4.out.2.2.2.1.cells
      try simp only at m0 m1 m2 m3 m4 m5
      go_wp2_with fail
      refine (IDifference_any _ _ _ (p) (q) ⟨no, ma, mb, mc, md, rs⟩ G4.out.2.1 G4.out.2.2.1 (by omega) (by omega) (HWp.out.ok HKp.out) (HWq.out.ok HKq.out)).mono ?_
      rintro e W5 ⟨xv, cv, dv, rfl, s1, s2, s3, s4, g⟩
      obtain ⟨xa, xc, rfl⟩ := s1.form
      obtain ⟨ca, cc, rfl⟩ := s2.form
      obtain ⟨da, dc, rfl⟩ := s3.form
      have HOx := hid0 s4
      have G5 := hid0 (And.intro (G4.out.1.trans g) (And.intro (G4.out.2.1.ext g) (And.intro (G4.out.2.2.1.ext g) (And.intro (G4.out.2.2.2.1.ext g) (And.intro (G4.out.2.2.2.2.1.ext g) (And.intro (G4.out.2.2.2.2.2.ext g) (And.intro (s1) (And.intro (s2) (s3)))))))))
      clear g s1 s2 s3 s4 m0 m1 m2 m3 m4 m5 G4
      obtain ⟨m0, m1, m2, m3, m4, m5⟩ := G5.out.2.2.2.1.cells
      try simp only at m0 m1 m2 m3 m4 m5
      go_wp2_with fail
      refine (Difference_any _ _ _ (treeP p) (treeP q) ⟨no, ma, mb, mc, md, rs⟩ G5.out.2.2.2.2.1 G5.out.2.2.2.2.2.1 HLp.out HLq.out).mono ?_
      rintro e W6 ⟨sv, rfl, o, g⟩
      obtain ⟨sa, sc, rfl⟩ := (OwnP.sl o).form
      have G6 := hid0 (And.intro (G5.out.1.trans g) (And.intro (G5.out.2.1.ext g) (And.intro (G5.out.2.2.1.ext g) (And.intro (G5.out.2.2.2.1.ext g) (And.intro (G5.out.2.2.2.2.1.ext g) (And.intro (G5.out.2.2.2.2.2.1.ext g) (And.intro (G5.out.2.2.2.2.2.2.1.ext g) (And.intro (G5.out.2.2.2.2.2.2.2.1.ext g) (And.intro (G5.out.2.2.2.2.2.2.2.2.ext g) (OwnP.sl o))))))))))
      clear g o m0 m1 m2 m3 m4 m5 G5
      go_wp2_with fail
      refine (Same_any _ _ _ (diffI (opOf ⟨no, ma, mb, mc, md, rs⟩) (treeP p) (treeP q)) (diffS ((opOf ⟨no, ma, mb, mc, md, rs⟩).getD fun _ _ => none) (treeP p) (treeP q)) G6.out.2.2.2.2.2.2.1 G6.out.2.2.2.2.2.2.2.2.2 (by have := Ok.length HOx.out; omega)).mono ?_
      rintro e W7 ⟨rfl, g⟩
      have G7 := hid0 (And.intro (G6.out.1.trans g) (And.intro (G6.out.2.1.ext g) (And.intro (G6.out.2.2.1.ext g) (And.intro (G6.out.2.2.2.1.ext g) (And.intro (G6.out.2.2.2.2.1.ext g) (And.intro (G6.out.2.2.2.2.2.1.ext g) (And.intro (G6.out.2.2.2.2.2.2.1.ext g) (And.intro (G6.out.2.2.2.2.2.2.2.1.ext g) (And.intro (G6.out.2.2.2.2.2.2.2.2.1.ext g) (G6.out.2.2.2.2.2.2.2.2.2.ext g))))))))))
      clear g G6
      rw [decide_eq_true (HEQ.out)]
      go_wp2_with fail
      refine (Same_any _ _ _ (treeP p) (treeP p) G7.out.2.2.2.2.2.2.2.1 G7.out.2.2.2.2.1 (by have := HLp.out; omega)).mono ?_
      rintro e W8 ⟨rfl, g⟩
      have G8 := hid0 (And.intro (G7.out.1.trans g) (And.intro (G7.out.2.1.ext g) (And.intro (G7.out.2.2.1.ext g) (And.intro (G7.out.2.2.2.1.ext g) (And.intro (G7.out.2.2.2.2.1.ext g) (And.intro (G7.out.2.2.2.2.2.1.ext g) (And.intro (G7.out.2.2.2.2.2.2.1.ext g) (And.intro (G7.out.2.2.2.2.2.2.2.1.ext g) (And.intro (G7.out.2.2.2.2.2.2.2.2.1.ext g) (G7.out.2.2.2.2.2.2.2.2.2.ext g))))))))))
      clear g G7
      rw [decide_eq_true (rfl)]
      go_wp2_with fail
      refine (Same_any _ _ _ (treeP q) (treeP q) G8.out.2.2.2.2.2.2.2.2.1 G8.out.2.2.2.2.2.1 (by have := HLq.out; omega)).mono ?_
      rintro e W9 ⟨rfl, g⟩
      have G9 := hid0 (And.intro (G8.out.1.trans g) (And.intro (G8.out.2.1.ext g) (And.intro (G8.out.2.2.1.ext g) (And.intro (G8.out.2.2.2.1.ext g) (And.intro (G8.out.2.2.2.2.1.ext g) (And.intro (G8.out.2.2.2.2.2.1.ext g) (And.intro (G8.out.2.2.2.2.2.2.1.ext g) (And.intro (G8.out.2.2.2.2.2.2.2.1.ext g) (And.intro (G8.out.2.2.2.2.2.2.2.2.1.ext g) (G8.out.2.2.2.2.2.2.2.2.2.ext g))))))))))
      clear g G8
      rw [decide_eq_true (rfl)]
      go_wp2
      go_ret
      exact ⟨rfl, G9.out.1⟩

end Go.Proofs.Ytdmfnlhbddejiaa
