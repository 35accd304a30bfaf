/- The walk of FnParts. -/
import Derived.Test.YtdmfnlhbddejiaaImplU
namespace Go.Proofs.Ytdmfnlhbddejiaa
open Go.RowKit

set_option maxRecDepth 100000 in
set_option maxHeartbeats 4000000 in
theorem FnParts_walk (w : World) (vp : Value) (p : Ps) (hp : SlP w vp p) (lp : p.length ≤ 8796093021952) (wp : KeysW p) (dp : DataR p) (vq : Value) (q : Ps) (hq : SlP w vq q) (lq : q.length ≤ 8796093021952) (wq : KeysW q) (dq : DataR q) (m : Mx) (_rm : MxR m) :
    Calls Try.prog 14 #[vp, vq, mxv m] w fun e w' => e = .returned (.bool true) ∧ Kept Non w w' := by
  have HWp := hid0 wp
  have HDp := hid0 dp
  have HWq := hid0 wq
  have HDq := hid0 dq
  have G0 := hid0 (And.intro (Kept.refl Non w) (And.intro (hp) (hq)))
  have HLp := hid0 (treeP_len0 wp)
  have HLq := hid0 (treeP_len0 wq)
  clear hp wp dp hq wq dq
  obtain ⟨no, ma, mb, mc, md, rs⟩ := m
  simp only [mxv]
  cases hkp : keyedB p with
  | false =>
    have HKp := hid0 hkp
    clear hkp
    go_enter Try.func14, Try.ntmps14
    go_wp2_with fail
    refine (keyed_any _ _ p (G0.out.2.1.ext ((Kept.refl _ _).alloc _)) (by omega)).mono ?_
    rintro e W1 ⟨rfl, g⟩
    have G1 := hid0 (And.intro ((G0.out.1.alloc _).trans g) (And.intro ((G0.out.2.1.ext ((Kept.refl _ _).alloc _)).ext g) (And.intro ((G0.out.2.2.ext ((Kept.refl _ _).alloc _)).ext g) ((MixAt.ext (m := ⟨no, ma, mb, mc, md, rs⟩) ⟨alloc_new _ _⟩ g)))))
    clear g G0
    rw [HKp.out]
    go_wp2
    go_ret
    exact ⟨rfl, G1.out.1⟩
  | true =>
    have HKp := hid0 hkp
    clear hkp
    cases hkq : keyedB q with
    | false =>
      have HKq := hid0 hkq
      clear hkq
      go_enter Try.func14, Try.ntmps14
      go_wp2_with fail
      refine (keyed_any _ _ p (G0.out.2.1.ext ((Kept.refl _ _).alloc _)) (by omega)).mono ?_
      rintro e W1 ⟨rfl, g⟩
      have G1 := hid0 (And.intro ((G0.out.1.alloc _).trans g) (And.intro ((G0.out.2.1.ext ((Kept.refl _ _).alloc _)).ext g) (And.intro ((G0.out.2.2.ext ((Kept.refl _ _).alloc _)).ext g) ((MixAt.ext (m := ⟨no, ma, mb, mc, md, rs⟩) ⟨alloc_new _ _⟩ g)))))
      clear g G0
      rw [HKp.out]
      go_wp2_with fail
      refine (keyed_any _ _ q G1.out.2.2.1 (by omega)).mono ?_
      rintro e W2 ⟨rfl, g⟩
      have G2 := hid0 (And.intro (G1.out.1.trans g) (And.intro (G1.out.2.1.ext g) (And.intro (G1.out.2.2.1.ext g) (G1.out.2.2.2.ext g))))
      clear g G1
      rw [HKq.out]
      go_wp2
      go_ret
      exact ⟨rfl, G2.out.1⟩
    | true =>
      have HKq := hid0 hkq
      clear hkq
      go_enter Try.func14, Try.ntmps14
      go_wp2_with fail
      refine (keyed_any _ _ p (G0.out.2.1.ext ((Kept.refl _ _).alloc _)) (by omega)).mono ?_
      rintro e W1 ⟨rfl, g⟩
      have G1 := hid0 (And.intro ((G0.out.1.alloc _).trans g) (And.intro ((G0.out.2.1.ext ((Kept.refl _ _).alloc _)).ext g) (And.intro ((G0.out.2.2.ext ((Kept.refl _ _).alloc _)).ext g) ((MixAt.ext (m := ⟨no, ma, mb, mc, md, rs⟩) ⟨alloc_new _ _⟩ g)))))
      clear g G0
      rw [HKp.out]
      go_wp2_with fail
      refine (keyed_any _ _ q G1.out.2.2.1 (by omega)).mono ?_
      rintro e W2 ⟨rfl, g⟩
      have G2 := hid0 (And.intro (G1.out.1.trans g) (And.intro (G1.out.2.1.ext g) (And.intro (G1.out.2.2.1.ext g) (G1.out.2.2.2.ext g))))
      clear g G1
      rw [HKq.out]
      go_wp2_with fail
      refine (no_any _).mono ?_
      rintro e W3 ⟨rfl, g⟩
      have G3 := hid0 (And.intro (G2.out.1.trans g) (And.intro (G2.out.2.1.ext g) (And.intro (G2.out.2.2.1.ext g) (G2.out.2.2.2.ext g))))
      clear g G2
      go_wp2_with fail
      refine (IDifference_any _ _ _ (p) (q) mN G3.out.2.1 G3.out.2.2.1 (by omega) (by omega) (HWp.out.ok HKp.out) (HWq.out.ok HKq.out)).mono ?_
      rintro e W4 ⟨a1v, a2v, a3v, rfl, s1, s2, s3, s4, g⟩
      obtain ⟨a1a, a1c, rfl⟩ := s1.form
      obtain ⟨a2a, a2c, rfl⟩ := s2.form
      obtain ⟨a3a, a3c, rfl⟩ := s3.form
      have HOa1 := hid0 s4
      have G4 := hid0 (And.intro (G3.out.1.trans g) (And.intro (G3.out.2.1.ext g) (And.intro (G3.out.2.2.1.ext g) (And.intro (G3.out.2.2.2.ext g) (And.intro (s1) (And.intro (s2) (s3)))))))
      clear g s1 s2 s3 s4 G3
      go_wp2_with fail
      refine (right_any _).mono ?_
      rintro e W5 ⟨rfl, g⟩
      have G5 := hid0 (And.intro (G4.out.1.trans g) (And.intro (G4.out.2.1.ext g) (And.intro (G4.out.2.2.1.ext g) (And.intro (G4.out.2.2.2.1.ext g) (And.intro (G4.out.2.2.2.2.1.ext g) (And.intro (G4.out.2.2.2.2.2.1.ext g) (G4.out.2.2.2.2.2.2.ext g)))))))
      clear g G4
      go_wp2_with fail
      refine (IIntersection_any _ _ _ (q) (p) mR G5.out.2.2.1 G5.out.2.1 (by omega) (by omega) (HWq.out.ok HKq.out) (HWp.out.ok HKp.out)).mono ?_
      rintro e W6 ⟨c1v, c2v, c3v, rfl, s1, s2, s3, s4, g⟩
      obtain ⟨c1a, c1c, rfl⟩ := s1.form
      obtain ⟨c2a, c2c, rfl⟩ := s2.form
      obtain ⟨c3a, c3c, rfl⟩ := s3.form
      have HOc1 := hid0 s4
      have G6 := hid0 (And.intro (G5.out.1.trans g) (And.intro (G5.out.2.1.ext g) (And.intro (G5.out.2.2.1.ext g) (And.intro (G5.out.2.2.2.1.ext g) (And.intro (G5.out.2.2.2.2.1.ext g) (And.intro (G5.out.2.2.2.2.2.1.ext g) (And.intro (G5.out.2.2.2.2.2.2.ext g) (And.intro (s1) (And.intro (s2) (s3))))))))))
      clear g s1 s2 s3 s4 G5
      have HT1 := hid0 (treeP_up HOa1.out.srt)
      have HT2 := hid0 (treeP_up HOc1.out.srt)
      have HR := hid0 (Rg.tree HDp.out)
      obtain ⟨m0, m1, m2, m3, m4, m5⟩ := G6.out.2.2.2.1.cells
      try simp only at m0 m1 m2 m3 m4 m5
      go_wp2_with fail
      refine (IUnion_any _ _ _ (diffI (opOf mN) (treeP p) (treeP q)) (interI (opOf mR) (treeP q) (treeP p)) ⟨no, ma, mb, mc, md, rs⟩ G6.out.2.2.2.2.1 G6.out.2.2.2.2.2.2.2.1 (by have := Ok.length HOa1.out; omega) (by have := Ok.length HOc1.out; omega) (HOa1.out.rng) (HOc1.out.rng)).mono ?_
      rintro e W7 ⟨x1v, x2v, x3v, rfl, s1, s2, s3, s4, g⟩
      obtain ⟨x1a, x1c, rfl⟩ := s1.form
      obtain ⟨x2a, x2c, rfl⟩ := s2.form
      obtain ⟨x3a, x3c, rfl⟩ := s3.form
      have HOx1 := hid0 s4
      have G7 := hid0 (And.intro (G6.out.1.trans g) (And.intro (G6.out.2.1.ext g) (And.intro (G6.out.2.2.1.ext g) (And.intro (G6.out.2.2.2.1.ext g) (And.intro (G6.out.2.2.2.2.1.ext g) (And.intro (G6.out.2.2.2.2.2.1.ext g) (And.intro (G6.out.2.2.2.2.2.2.1.ext g) (And.intro (G6.out.2.2.2.2.2.2.2.1.ext g) (And.intro (G6.out.2.2.2.2.2.2.2.2.1.ext g) (And.intro (G6.out.2.2.2.2.2.2.2.2.2.ext g) (And.intro (s1) (And.intro (s2) (s3)))))))))))))
      clear g s1 s2 s3 s4 m0 m1 m2 m3 m4 m5 G6
      obtain ⟨m0, m1, m2, m3, m4, m5⟩ := G7.out.2.2.2.1.cells
      try simp only at m0 m1 m2 m3 m4 m5
      go_wp2_with fail
      refine (IUnion_any _ _ _ (interI (opOf mR) (treeP q) (treeP p)) (diffI (opOf mN) (treeP p) (treeP q)) ⟨no, ma, mb, mc, md, rs⟩ G7.out.2.2.2.2.2.2.2.1 G7.out.2.2.2.2.1 (by have := Ok.length HOc1.out; omega) (by have := Ok.length HOa1.out; omega) (HOc1.out.rng) (HOa1.out.rng)).mono ?_
      rintro e W8 ⟨y1v, y2v, y3v, rfl, s1, s2, s3, s4, g⟩
      obtain ⟨y1a, y1c, rfl⟩ := s1.form
      obtain ⟨y2a, y2c, rfl⟩ := s2.form
      obtain ⟨y3a, y3c, rfl⟩ := s3.form
      have HOy1 := hid0 s4
      have G8 := hid0 (And.intro (G7.out.1.trans g) (And.intro (G7.out.2.1.ext g) (And.intro (G7.out.2.2.1.ext g) (And.intro (G7.out.2.2.2.1.ext g) (And.intro (G7.out.2.2.2.2.1.ext g) (And.intro (G7.out.2.2.2.2.2.1.ext g) (And.intro (G7.out.2.2.2.2.2.2.1.ext g) (And.intro (G7.out.2.2.2.2.2.2.2.1.ext g) (And.intro (G7.out.2.2.2.2.2.2.2.2.1.ext g) (And.intro (G7.out.2.2.2.2.2.2.2.2.2.1.ext g) (And.intro (G7.out.2.2.2.2.2.2.2.2.2.2.1.ext g) (And.intro (G7.out.2.2.2.2.2.2.2.2.2.2.2.1.ext g) (And.intro (G7.out.2.2.2.2.2.2.2.2.2.2.2.2.ext g) (And.intro (s1) (And.intro (s2) (s3))))))))))))))))
      clear g s1 s2 s3 s4 m0 m1 m2 m3 m4 m5 G7
      go_wp2_with fail
      refine (Tree_any _ _ p G8.out.2.1 (by omega) HWp.out).mono ?_
      rintro e W9 ⟨tv, rfl, o, g⟩
      obtain ⟨ta, tc, rfl⟩ := (OwnP.sl o).form
      have G9 := hid0 (And.intro (G8.out.1.trans g) (And.intro (G8.out.2.1.ext g) (And.intro (G8.out.2.2.1.ext g) (And.intro (G8.out.2.2.2.1.ext g) (And.intro (G8.out.2.2.2.2.1.ext g) (And.intro (G8.out.2.2.2.2.2.1.ext g) (And.intro (G8.out.2.2.2.2.2.2.1.ext g) (And.intro (G8.out.2.2.2.2.2.2.2.1.ext g) (And.intro (G8.out.2.2.2.2.2.2.2.2.1.ext g) (And.intro (G8.out.2.2.2.2.2.2.2.2.2.1.ext g) (And.intro (G8.out.2.2.2.2.2.2.2.2.2.2.1.ext g) (And.intro (G8.out.2.2.2.2.2.2.2.2.2.2.2.1.ext g) (And.intro (G8.out.2.2.2.2.2.2.2.2.2.2.2.2.1.ext g) (And.intro (G8.out.2.2.2.2.2.2.2.2.2.2.2.2.2.1.ext g) (And.intro (G8.out.2.2.2.2.2.2.2.2.2.2.2.2.2.2.1.ext g) (And.intro (G8.out.2.2.2.2.2.2.2.2.2.2.2.2.2.2.2.ext g) (OwnP.sl o)))))))))))))))))
      clear g o G8
      have e1 : unionI (opOf ⟨no, ma, mb, mc, md, rs⟩) (treeP (diffI (opOf mN) (treeP p) (treeP q))) (treeP (interI (opOf mR) (treeP q) (treeP p))) = treeP p := by rw [HT1.out, HT2.out]; exact parts_1 (up_treeP p) (up_treeP q) HR.out _
      have e2 : unionI (opOf ⟨no, ma, mb, mc, md, rs⟩) (treeP (interI (opOf mR) (treeP q) (treeP p))) (treeP (diffI (opOf mN) (treeP p) (treeP q))) = treeP p := by rw [HT1.out, HT2.out]; exact parts_2 (up_treeP p) (up_treeP q) HR.out _
      have HE := hid0 (And.intro e1 e2)
      have hn := parts_len (xs := treeP p) (ys := treeP q) (up_treeP p) (up_treeP q) HR.out
      have HNN := hid0 (And.intro hn HLp.out)
      clear e1 e2 hn
      go_wp2_with fail
      refine (Same_any _ _ _ (unionI (opOf ⟨no, ma, mb, mc, md, rs⟩) (treeP (diffI (opOf mN) (treeP p) (treeP q))) (treeP (interI (opOf mR) (treeP q) (treeP p)))) (treeP p) G9.out.2.2.2.2.2.2.2.2.2.2.1 G9.out.2.2.2.2.2.2.2.2.2.2.2.2.2.2.2.2 (by have := Ok.length HOx1.out; omega)).mono ?_
      rintro e W10 ⟨rfl, g⟩
      have G10 := hid0 (And.intro (G9.out.1.trans g) (And.intro (G9.out.2.1.ext g) (And.intro (G9.out.2.2.1.ext g) (And.intro (G9.out.2.2.2.1.ext g) (And.intro (G9.out.2.2.2.2.1.ext g) (And.intro (G9.out.2.2.2.2.2.1.ext g) (And.intro (G9.out.2.2.2.2.2.2.1.ext g) (And.intro (G9.out.2.2.2.2.2.2.2.1.ext g) (And.intro (G9.out.2.2.2.2.2.2.2.2.1.ext g) (And.intro (G9.out.2.2.2.2.2.2.2.2.2.1.ext g) (And.intro (G9.out.2.2.2.2.2.2.2.2.2.2.1.ext g) (And.intro (G9.out.2.2.2.2.2.2.2.2.2.2.2.1.ext g) (And.intro (G9.out.2.2.2.2.2.2.2.2.2.2.2.2.1.ext g) (And.intro (G9.out.2.2.2.2.2.2.2.2.2.2.2.2.2.1.ext g) (And.intro (G9.out.2.2.2.2.2.2.2.2.2.2.2.2.2.2.1.ext g) (And.intro (G9.out.2.2.2.2.2.2.2.2.2.2.2.2.2.2.2.1.ext g) (G9.out.2.2.2.2.2.2.2.2.2.2.2.2.2.2.2.2.ext g)))))))))))))))))
      clear g G9
      rw [decide_eq_true (HE.out.1)]
      go_wp2_with fail
      refine (Same_any _ _ _ (unionI (opOf ⟨no, ma, mb, mc, md, rs⟩) (treeP (interI (opOf mR) (treeP q) (treeP p))) (treeP (diffI (opOf mN) (treeP p) (treeP q)))) (unionI (opOf ⟨no, ma, mb, mc, md, rs⟩) (treeP (diffI (opOf mN) (treeP p) (treeP q))) (treeP (interI (opOf mR) (treeP q) (treeP p)))) G10.out.2.2.2.2.2.2.2.2.2.2.2.2.2.1 G10.out.2.2.2.2.2.2.2.2.2.2.1 (by have := Ok.length HOy1.out; omega)).mono ?_
      rintro e W11 ⟨rfl, g⟩
      have G11 := hid0 (And.intro (G10.out.1.trans g) (And.intro (G10.out.2.1.ext g) (And.intro (G10.out.2.2.1.ext g) (And.intro (G10.out.2.2.2.1.ext g) (And.intro (G10.out.2.2.2.2.1.ext g) (And.intro (G10.out.2.2.2.2.2.1.ext g) (And.intro (G10.out.2.2.2.2.2.2.1.ext g) (And.intro (G10.out.2.2.2.2.2.2.2.1.ext g) (And.intro (G10.out.2.2.2.2.2.2.2.2.1.ext g) (And.intro (G10.out.2.2.2.2.2.2.2.2.2.1.ext g) (And.intro (G10.out.2.2.2.2.2.2.2.2.2.2.1.ext g) (And.intro (G10.out.2.2.2.2.2.2.2.2.2.2.2.1.ext g) (And.intro (G10.out.2.2.2.2.2.2.2.2.2.2.2.2.1.ext g) (And.intro (G10.out.2.2.2.2.2.2.2.2.2.2.2.2.2.1.ext g) (And.intro (G10.out.2.2.2.2.2.2.2.2.2.2.2.2.2.2.1.ext g) (And.intro (G10.out.2.2.2.2.2.2.2.2.2.2.2.2.2.2.2.1.ext g) (G10.out.2.2.2.2.2.2.2.2.2.2.2.2.2.2.2.2.ext g)))))))))))))))))
      clear g G10
      rw [decide_eq_true (by rw [HE.out.1, HE.out.2])]
      rw [HE.out.1]
      obtain ⟨hn, hlp⟩ := HNN.out
      generalize (diffI (opOf mN) (treeP p) (treeP q)).length = na at hn ⊢
      generalize (interI (opOf mR) (treeP q) (treeP p)).length = nb at hn ⊢
      generalize (treeP p).length = nc at hn hlp ⊢
      have hw : wrap64 ((na : Int) + (nb : Int)) = (nc : Int) := by rw [wrap_in ⟨by omega, by omega⟩]; omega
      have hq : ((nc : Int) == (nc : Int)) = true := by simp
      clear hn hlp
      go_wp2
      go_ret
      exact ⟨rfl, G11.out.1⟩

end Go.Proofs.Ytdmfnlhbddejiaa
