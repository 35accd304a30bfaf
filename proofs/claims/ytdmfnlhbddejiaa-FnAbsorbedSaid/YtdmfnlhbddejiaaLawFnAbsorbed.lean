/- The walk of FnAbsorbed. -/
import Derived.Test.YtdmfnlhbddejiaaImplU
namespace Go.Proofs.Ytdmfnlhbddejiaa
open Go.RowKit

set_option maxRecDepth 100000 in
set_option maxHeartbeats 4000000 in
theorem FnAbsorbed_walk (w : World) (vp : Value) (p : Ps) (hp : SlP w vp p) (lp : p.length ≤ 8796093021952) (wp : KeysW p) (dp : DataR p) (vq : Value) (q : Ps) (hq : SlP w vq q) (lq : q.length ≤ 8796093021952) (wq : KeysW q) (dq : DataR q) :
    Calls Try.prog 12 #[vp, vq] w fun e w' => e = .returned (.bool true) ∧ Kept Non w w' := by
  have HWp := hid0 wp
  have HDp := hid0 dp
  have HWq := hid0 wq
  have HDq := hid0 dq
  have G0 := hid0 (And.intro (Kept.refl Non w) (And.intro (hp) (hq)))
  have HLp := hid0 (treeP_len0 wp)
  have HLq := hid0 (treeP_len0 wq)
  clear hp wp dp hq wq dq
  cases hkp : keyedB p with
  | false =>
    have HKp := hid0 hkp
    clear hkp
    go_enter Try.func12, Try.ntmps12
    go_wp2_with fail
    refine (keyed_any _ _ p G0.out.2.1 (by omega)).mono ?_
    rintro e W1 ⟨rfl, g⟩
    have G1 := hid0 (And.intro (G0.out.1.trans g) (And.intro (G0.out.2.1.ext g) (G0.out.2.2.ext g)))
    clear g G0
    rw [HKp.out]
    go_wp2
    go_ret
    exact ⟨rfl, G1.out.1⟩
  | true =>
    have HKp := hid0 hkp
    clear hkp
    cases hkq : keyedB q with
    | false =>
      have HKq := hid0 hkq
      clear hkq
      go_enter Try.func12, Try.ntmps12
      go_wp2_with fail
      refine (keyed_any _ _ p G0.out.2.1 (by omega)).mono ?_
      rintro e W1 ⟨rfl, g⟩
      have G1 := hid0 (And.intro (G0.out.1.trans g) (And.intro (G0.out.2.1.ext g) (G0.out.2.2.ext g)))
      clear g G0
      rw [HKp.out]
      go_wp2_with fail
      refine (keyed_any _ _ q G1.out.2.2 (by omega)).mono ?_
      rintro e W2 ⟨rfl, g⟩
      have G2 := hid0 (And.intro (G1.out.1.trans g) (And.intro (G1.out.2.1.ext g) (G1.out.2.2.ext g)))
      clear g G1
      rw [HKq.out]
      go_wp2
      go_ret
      exact ⟨rfl, G2.out.1⟩
    | true =>
      have HKq := hid0 hkq
      clear hkq
      go_enter Try.func12, Try.ntmps12
      go_wp2_with fail
      refine (keyed_any _ _ p G0.out.2.1 (by omega)).mono ?_
      rintro e W1 ⟨rfl, g⟩
      have G1 := hid0 (And.intro (G0.out.1.trans g) (And.intro (G0.out.2.1.ext g) (G0.out.2.2.ext g)))
      clear g G0
      rw [HKp.out]
      go_wp2_with fail
      refine (keyed_any _ _ q G1.out.2.2 (by omega)).mono ?_
      rintro e W2 ⟨rfl, g⟩
      have G2 := hid0 (And.intro (G1.out.1.trans g) (And.intro (G1.out.2.1.ext g) (G1.out.2.2.ext g)))
      clear g G1
      rw [HKq.out]
      go_wp2_with fail
      refine (Tree_any _ _ p G2.out.2.1 (by omega) HWp.out).mono ?_
      rintro e W3 ⟨tv, rfl, o, g⟩
      obtain ⟨ta, tc, rfl⟩ := (OwnP.sl o).form
      have G3 := hid0 (And.intro (G2.out.1.trans g) (And.intro (G2.out.2.1.ext g) (And.intro (G2.out.2.2.ext g) (OwnP.sl o))))
      clear g o G2
      have rp := Rg.tree HDp.out
      have rq := Rg.tree HDq.out
      have HR := hid0 (And.intro rp rq)
      clear rp rq
      go_wp2_with fail
      refine (right_any _).mono ?_
      rintro e W4 ⟨rfl, g⟩
      have G4 := hid0 (And.intro (G3.out.1.trans g) (And.intro (G3.out.2.1.ext g) (And.intro (G3.out.2.2.1.ext g) (G3.out.2.2.2.ext g))))
      clear g G3
      go_wp2_with fail
      refine (IIntersection_any _ _ _ (p) (q) mR G4.out.2.1 G4.out.2.2.1 (by omega) (by omega) (HWp.out.ok HKp.out) (HWq.out.ok HKq.out)).mono ?_
      rintro e W5 ⟨x1v, x2v, x3v, rfl, s1, s2, s3, s4, g⟩
      obtain ⟨x1a, x1c, rfl⟩ := s1.form
      obtain ⟨x2a, x2c, rfl⟩ := s2.form
      obtain ⟨x3a, x3c, rfl⟩ := s3.form
      have HOx1 := hid0 s4
      have G5 := hid0 (And.intro (G4.out.1.trans g) (And.intro (G4.out.2.1.ext g) (And.intro (G4.out.2.2.1.ext g) (And.intro (G4.out.2.2.2.ext g) (And.intro (s1) (And.intro (s2) (s3)))))))
      clear g s1 s2 s3 s4 G4
      have HT1 := hid0 (treeP_up HOx1.out.srt)
      go_wp2_with fail
      refine (left_any _).mono ?_
      rintro e W6 ⟨rfl, g⟩
      have G6 := hid0 (And.intro (G5.out.1.trans g) (And.intro (G5.out.2.1.ext g) (And.intro (G5.out.2.2.1.ext g) (And.intro (G5.out.2.2.2.1.ext g) (And.intro (G5.out.2.2.2.2.1.ext g) (And.intro (G5.out.2.2.2.2.2.1.ext g) (G5.out.2.2.2.2.2.2.ext g)))))))
      clear g G5
      go_wp2_with fail
      refine (IUnion_any _ _ _ (p) (interI (opOf mR) (treeP p) (treeP q)) mL G6.out.2.1 G6.out.2.2.2.2.1 (by omega) (by have := Ok.length HOx1.out; omega) (HWp.out.ok HKp.out) (HOx1.out.rng)).mono ?_
      rintro e W7 ⟨y1v, y2v, y3v, rfl, s1, s2, s3, s4, g⟩
      obtain ⟨y1a, y1c, rfl⟩ := s1.form
      obtain ⟨y2a, y2c, rfl⟩ := s2.form
      obtain ⟨y3a, y3c, rfl⟩ := s3.form
      have HOy1 := hid0 s4
      have G7 := hid0 (And.intro (G6.out.1.trans g) (And.intro (G6.out.2.1.ext g) (And.intro (G6.out.2.2.1.ext g) (And.intro (G6.out.2.2.2.1.ext g) (And.intro (G6.out.2.2.2.2.1.ext g) (And.intro (G6.out.2.2.2.2.2.1.ext g) (And.intro (G6.out.2.2.2.2.2.2.ext g) (And.intro (s1) (And.intro (s2) (s3))))))))))
      clear g s1 s2 s3 s4 G6
      go_wp2_with fail
      refine (right_any _).mono ?_
      rintro e W8 ⟨rfl, g⟩
      have G8 := hid0 (And.intro (G7.out.1.trans g) (And.intro (G7.out.2.1.ext g) (And.intro (G7.out.2.2.1.ext g) (And.intro (G7.out.2.2.2.1.ext g) (And.intro (G7.out.2.2.2.2.1.ext g) (And.intro (G7.out.2.2.2.2.2.1.ext g) (And.intro (G7.out.2.2.2.2.2.2.1.ext g) (And.intro (G7.out.2.2.2.2.2.2.2.1.ext g) (And.intro (G7.out.2.2.2.2.2.2.2.2.1.ext g) (G7.out.2.2.2.2.2.2.2.2.2.ext g))))))))))
      clear g G7
      go_wp2_with fail
      refine (IUnion_any _ _ _ (p) (q) mR G8.out.2.1 G8.out.2.2.1 (by omega) (by omega) (HWp.out.ok HKp.out) (HWq.out.ok HKq.out)).mono ?_
      rintro e W9 ⟨z1v, z2v, z3v, rfl, s1, s2, s3, s4, g⟩
      obtain ⟨z1a, z1c, rfl⟩ := s1.form
      obtain ⟨z2a, z2c, rfl⟩ := s2.form
      obtain ⟨z3a, z3c, rfl⟩ := s3.form
      have HOz1 := hid0 s4
      have G9 := hid0 (And.intro (G8.out.1.trans g) (And.intro (G8.out.2.1.ext g) (And.intro (G8.out.2.2.1.ext g) (And.intro (G8.out.2.2.2.1.ext g) (And.intro (G8.out.2.2.2.2.1.ext g) (And.intro (G8.out.2.2.2.2.2.1.ext g) (And.intro (G8.out.2.2.2.2.2.2.1.ext g) (And.intro (G8.out.2.2.2.2.2.2.2.1.ext g) (And.intro (G8.out.2.2.2.2.2.2.2.2.1.ext g) (And.intro (G8.out.2.2.2.2.2.2.2.2.2.ext g) (And.intro (s1) (And.intro (s2) (s3)))))))))))))
      clear g s1 s2 s3 s4 G8
      have HT2 := hid0 (treeP_up HOz1.out.srt)
      go_wp2_with fail
      refine (left_any _).mono ?_
      rintro e W10 ⟨rfl, g⟩
      have G10 := hid0 (And.intro (G9.out.1.trans g) (And.intro (G9.out.2.1.ext g) (And.intro (G9.out.2.2.1.ext g) (And.intro (G9.out.2.2.2.1.ext g) (And.intro (G9.out.2.2.2.2.1.ext g) (And.intro (G9.out.2.2.2.2.2.1.ext g) (And.intro (G9.out.2.2.2.2.2.2.1.ext g) (And.intro (G9.out.2.2.2.2.2.2.2.1.ext g) (And.intro (G9.out.2.2.2.2.2.2.2.2.1.ext g) (And.intro (G9.out.2.2.2.2.2.2.2.2.2.1.ext g) (And.intro (G9.out.2.2.2.2.2.2.2.2.2.2.1.ext g) (And.intro (G9.out.2.2.2.2.2.2.2.2.2.2.2.1.ext g) (G9.out.2.2.2.2.2.2.2.2.2.2.2.2.ext g)))))))))))))
      clear g G9
      go_wp2_with fail
      refine (IIntersection_any _ _ _ (p) (unionI (opOf mR) (treeP p) (treeP q)) mL G10.out.2.1 G10.out.2.2.2.2.2.2.2.2.2.2.1 (by omega) (by have := Ok.length HOz1.out; omega) (HWp.out.ok HKp.out) (HOz1.out.rng)).mono ?_
      rintro e W11 ⟨k1v, k2v, k3v, rfl, s1, s2, s3, s4, g⟩
      obtain ⟨k1a, k1c, rfl⟩ := s1.form
      obtain ⟨k2a, k2c, rfl⟩ := s2.form
      obtain ⟨k3a, k3c, rfl⟩ := s3.form
      have HOk1 := hid0 s4
      have G11 := hid0 (And.intro (G10.out.1.trans g) (And.intro (G10.out.2.1.ext g) (And.intro (G10.out.2.2.1.ext g) (And.intro (G10.out.2.2.2.1.ext g) (And.intro (G10.out.2.2.2.2.1.ext g) (And.intro (G10.out.2.2.2.2.2.1.ext g) (And.intro (G10.out.2.2.2.2.2.2.1.ext g) (And.intro (G10.out.2.2.2.2.2.2.2.1.ext g) (And.intro (G10.out.2.2.2.2.2.2.2.2.1.ext g) (And.intro (G10.out.2.2.2.2.2.2.2.2.2.1.ext g) (And.intro (G10.out.2.2.2.2.2.2.2.2.2.2.1.ext g) (And.intro (G10.out.2.2.2.2.2.2.2.2.2.2.2.1.ext g) (And.intro (G10.out.2.2.2.2.2.2.2.2.2.2.2.2.ext g) (And.intro (s1) (And.intro (s2) (s3))))))))))))))))
      clear g s1 s2 s3 s4 G10
      go_wp2_with fail
      refine (no_any _).mono ?_
      rintro e W12 ⟨rfl, g⟩
      have G12 := hid0 (And.intro (G11.out.1.trans g) (And.intro (G11.out.2.1.ext g) (And.intro (G11.out.2.2.1.ext g) (And.intro (G11.out.2.2.2.1.ext g) (And.intro (G11.out.2.2.2.2.1.ext g) (And.intro (G11.out.2.2.2.2.2.1.ext g) (And.intro (G11.out.2.2.2.2.2.2.1.ext g) (And.intro (G11.out.2.2.2.2.2.2.2.1.ext g) (And.intro (G11.out.2.2.2.2.2.2.2.2.1.ext g) (And.intro (G11.out.2.2.2.2.2.2.2.2.2.1.ext g) (And.intro (G11.out.2.2.2.2.2.2.2.2.2.2.1.ext g) (And.intro (G11.out.2.2.2.2.2.2.2.2.2.2.2.1.ext g) (And.intro (G11.out.2.2.2.2.2.2.2.2.2.2.2.2.1.ext g) (And.intro (G11.out.2.2.2.2.2.2.2.2.2.2.2.2.2.1.ext g) (And.intro (G11.out.2.2.2.2.2.2.2.2.2.2.2.2.2.2.1.ext g) (G11.out.2.2.2.2.2.2.2.2.2.2.2.2.2.2.2.ext g))))))))))))))))
      clear g G11
      go_wp2_with fail
      refine (IUnion_any _ _ _ (p) (p) mN G12.out.2.1 G12.out.2.1 (by omega) (by omega) (HWp.out.ok HKp.out) (HWp.out.ok HKp.out)).mono ?_
      rintro e W13 ⟨a1v, a2v, a3v, rfl, s1, s2, s3, s4, g⟩
      obtain ⟨a1a, a1c, rfl⟩ := s1.form
      obtain ⟨a2a, a2c, rfl⟩ := s2.form
      obtain ⟨a3a, a3c, rfl⟩ := s3.form
      have HOa1 := hid0 s4
      have G13 := hid0 (And.intro (G12.out.1.trans g) (And.intro (G12.out.2.1.ext g) (And.intro (G12.out.2.2.1.ext g) (And.intro (G12.out.2.2.2.1.ext g) (And.intro (G12.out.2.2.2.2.1.ext g) (And.intro (G12.out.2.2.2.2.2.1.ext g) (And.intro (G12.out.2.2.2.2.2.2.1.ext g) (And.intro (G12.out.2.2.2.2.2.2.2.1.ext g) (And.intro (G12.out.2.2.2.2.2.2.2.2.1.ext g) (And.intro (G12.out.2.2.2.2.2.2.2.2.2.1.ext g) (And.intro (G12.out.2.2.2.2.2.2.2.2.2.2.1.ext g) (And.intro (G12.out.2.2.2.2.2.2.2.2.2.2.2.1.ext g) (And.intro (G12.out.2.2.2.2.2.2.2.2.2.2.2.2.1.ext g) (And.intro (G12.out.2.2.2.2.2.2.2.2.2.2.2.2.2.1.ext g) (And.intro (G12.out.2.2.2.2.2.2.2.2.2.2.2.2.2.2.1.ext g) (And.intro (G12.out.2.2.2.2.2.2.2.2.2.2.2.2.2.2.2.ext g) (And.intro (s1) (And.intro (s2) (s3)))))))))))))))))))
      clear g s1 s2 s3 s4 G12
      go_wp2_with fail
      refine (no_any _).mono ?_
      rintro e W14 ⟨rfl, g⟩
      have G14 := hid0 (And.intro (G13.out.1.trans g) (And.intro (G13.out.2.1.ext g) (And.intro (G13.out.2.2.1.ext g) (And.intro (G13.out.2.2.2.1.ext g) (And.intro (G13.out.2.2.2.2.1.ext g) (And.intro (G13.out.2.2.2.2.2.1.ext g) (And.intro (G13.out.2.2.2.2.2.2.1.ext g) (And.intro (G13.out.2.2.2.2.2.2.2.1.ext g) (And.intro (G13.out.2.2.2.2.2.2.2.2.1.ext g) (And.intro (G13.out.2.2.2.2.2.2.2.2.2.1.ext g) (And.intro (G13.out.2.2.2.2.2.2.2.2.2.2.1.ext g) (And.intro (G13.out.2.2.2.2.2.2.2.2.2.2.2.1.ext g) (And.intro (G13.out.2.2.2.2.2.2.2.2.2.2.2.2.1.ext g) (And.intro (G13.out.2.2.2.2.2.2.2.2.2.2.2.2.2.1.ext g) (And.intro (G13.out.2.2.2.2.2.2.2.2.2.2.2.2.2.2.1.ext g) (And.intro (G13.out.2.2.2.2.2.2.2.2.2.2.2.2.2.2.2.1.ext g) (And.intro (G13.out.2.2.2.2.2.2.2.2.2.2.2.2.2.2.2.2.1.ext g) (And.intro (G13.out.2.2.2.2.2.2.2.2.2.2.2.2.2.2.2.2.2.1.ext g) (G13.out.2.2.2.2.2.2.2.2.2.2.2.2.2.2.2.2.2.2.ext g)))))))))))))))))))
      clear g G13
      go_wp2_with fail
      refine (IIntersection_any _ _ _ (p) (p) mN G14.out.2.1 G14.out.2.1 (by omega) (by omega) (HWp.out.ok HKp.out) (HWp.out.ok HKp.out)).mono ?_
      rintro e W15 ⟨b1v, b2v, b3v, rfl, s1, s2, s3, s4, g⟩
      obtain ⟨b1a, b1c, rfl⟩ := s1.form
      obtain ⟨b2a, b2c, rfl⟩ := s2.form
      obtain ⟨b3a, b3c, rfl⟩ := s3.form
      have HOb1 := hid0 s4
      have G15 := hid0 (And.intro (G14.out.1.trans g) (And.intro (G14.out.2.1.ext g) (And.intro (G14.out.2.2.1.ext g) (And.intro (G14.out.2.2.2.1.ext g) (And.intro (G14.out.2.2.2.2.1.ext g) (And.intro (G14.out.2.2.2.2.2.1.ext g) (And.intro (G14.out.2.2.2.2.2.2.1.ext g) (And.intro (G14.out.2.2.2.2.2.2.2.1.ext g) (And.intro (G14.out.2.2.2.2.2.2.2.2.1.ext g) (And.intro (G14.out.2.2.2.2.2.2.2.2.2.1.ext g) (And.intro (G14.out.2.2.2.2.2.2.2.2.2.2.1.ext g) (And.intro (G14.out.2.2.2.2.2.2.2.2.2.2.2.1.ext g) (And.intro (G14.out.2.2.2.2.2.2.2.2.2.2.2.2.1.ext g) (And.intro (G14.out.2.2.2.2.2.2.2.2.2.2.2.2.2.1.ext g) (And.intro (G14.out.2.2.2.2.2.2.2.2.2.2.2.2.2.2.1.ext g) (And.intro (G14.out.2.2.2.2.2.2.2.2.2.2.2.2.2.2.2.1.ext g) (And.intro (G14.out.2.2.2.2.2.2.2.2.2.2.2.2.2.2.2.2.1.ext g) (And.intro (G14.out.2.2.2.2.2.2.2.2.2.2.2.2.2.2.2.2.2.1.ext g) (And.intro (G14.out.2.2.2.2.2.2.2.2.2.2.2.2.2.2.2.2.2.2.ext g) (And.intro (s1) (And.intro (s2) (s3))))))))))))))))))))))
      clear g s1 s2 s3 s4 G14
      go_wp2_with fail
      refine (no_any _).mono ?_
      rintro e W16 ⟨rfl, g⟩
      have G16 := hid0 (And.intro (G15.out.1.trans g) (And.intro (G15.out.2.1.ext g) (And.intro (G15.out.2.2.1.ext g) (And.intro (G15.out.2.2.2.1.ext g) (And.intro (G15.out.2.2.2.2.1.ext g) (And.intro (G15.out.2.2.2.2.2.1.ext g) (And.intro (G15.out.2.2.2.2.2.2.1.ext g) (And.intro (G15.out.2.2.2.2.2.2.2.1.ext g) (And.intro (G15.out.2.2.2.2.2.2.2.2.1.ext g) (And.intro (G15.out.2.2.2.2.2.2.2.2.2.1.ext g) (And.intro (G15.out.2.2.2.2.2.2.2.2.2.2.1.ext g) (And.intro (G15.out.2.2.2.2.2.2.2.2.2.2.2.1.ext g) (And.intro (G15.out.2.2.2.2.2.2.2.2.2.2.2.2.1.ext g) (And.intro (G15.out.2.2.2.2.2.2.2.2.2.2.2.2.2.1.ext g) (And.intro (G15.out.2.2.2.2.2.2.2.2.2.2.2.2.2.2.1.ext g) (And.intro (G15.out.2.2.2.2.2.2.2.2.2.2.2.2.2.2.2.1.ext g) (And.intro (G15.out.2.2.2.2.2.2.2.2.2.2.2.2.2.2.2.2.1.ext g) (And.intro (G15.out.2.2.2.2.2.2.2.2.2.2.2.2.2.2.2.2.2.1.ext g) (And.intro (G15.out.2.2.2.2.2.2.2.2.2.2.2.2.2.2.2.2.2.2.1.ext g) (And.intro (G15.out.2.2.2.2.2.2.2.2.2.2.2.2.2.2.2.2.2.2.2.1.ext g) (And.intro (G15.out.2.2.2.2.2.2.2.2.2.2.2.2.2.2.2.2.2.2.2.2.1.ext g) (G15.out.2.2.2.2.2.2.2.2.2.2.2.2.2.2.2.2.2.2.2.2.2.ext g))))))))))))))))))))))
      clear g G15
      go_wp2_with fail
      refine (IDifference_any _ _ _ (p) (p) mN G16.out.2.1 G16.out.2.1 (by omega) (by omega) (HWp.out.ok HKp.out) (HWp.out.ok HKp.out)).mono ?_
      rintro e W17 ⟨c1v, c2v, c3v, rfl, s1, s2, s3, s4, g⟩
      obtain ⟨c1a, c1c, rfl⟩ := s1.form
      obtain ⟨c2a, c2c, rfl⟩ := s2.form
      obtain ⟨c3a, c3c, rfl⟩ := s3.form
      have HOc1 := hid0 s4
      have G17 := hid0 (And.intro (G16.out.1.trans g) (And.intro (G16.out.2.1.ext g) (And.intro (G16.out.2.2.1.ext g) (And.intro (G16.out.2.2.2.1.ext g) (And.intro (G16.out.2.2.2.2.1.ext g) (And.intro (G16.out.2.2.2.2.2.1.ext g) (And.intro (G16.out.2.2.2.2.2.2.1.ext g) (And.intro (G16.out.2.2.2.2.2.2.2.1.ext g) (And.intro (G16.out.2.2.2.2.2.2.2.2.1.ext g) (And.intro (G16.out.2.2.2.2.2.2.2.2.2.1.ext g) (And.intro (G16.out.2.2.2.2.2.2.2.2.2.2.1.ext g) (And.intro (G16.out.2.2.2.2.2.2.2.2.2.2.2.1.ext g) (And.intro (G16.out.2.2.2.2.2.2.2.2.2.2.2.2.1.ext g) (And.intro (G16.out.2.2.2.2.2.2.2.2.2.2.2.2.2.1.ext g) (And.intro (G16.out.2.2.2.2.2.2.2.2.2.2.2.2.2.2.1.ext g) (And.intro (G16.out.2.2.2.2.2.2.2.2.2.2.2.2.2.2.2.1.ext g) (And.intro (G16.out.2.2.2.2.2.2.2.2.2.2.2.2.2.2.2.2.1.ext g) (And.intro (G16.out.2.2.2.2.2.2.2.2.2.2.2.2.2.2.2.2.2.1.ext g) (And.intro (G16.out.2.2.2.2.2.2.2.2.2.2.2.2.2.2.2.2.2.2.1.ext g) (And.intro (G16.out.2.2.2.2.2.2.2.2.2.2.2.2.2.2.2.2.2.2.2.1.ext g) (And.intro (G16.out.2.2.2.2.2.2.2.2.2.2.2.2.2.2.2.2.2.2.2.2.1.ext g) (And.intro (G16.out.2.2.2.2.2.2.2.2.2.2.2.2.2.2.2.2.2.2.2.2.2.ext g) (And.intro (s1) (And.intro (s2) (s3)))))))))))))))))))))))))
      clear g s1 s2 s3 s4 G16
      go_wp2_with fail
      refine (Same_any _ _ _ (unionI (opOf mL) (treeP p) (treeP (interI (opOf mR) (treeP p) (treeP q)))) (treeP p) G17.out.2.2.2.2.2.2.2.1 G17.out.2.2.2.1 (by have := Ok.length HOy1.out; omega)).mono ?_
      rintro e W18 ⟨rfl, g⟩
      have G18 := hid0 (And.intro (G17.out.1.trans g) (And.intro (G17.out.2.1.ext g) (And.intro (G17.out.2.2.1.ext g) (And.intro (G17.out.2.2.2.1.ext g) (And.intro (G17.out.2.2.2.2.1.ext g) (And.intro (G17.out.2.2.2.2.2.1.ext g) (And.intro (G17.out.2.2.2.2.2.2.1.ext g) (And.intro (G17.out.2.2.2.2.2.2.2.1.ext g) (And.intro (G17.out.2.2.2.2.2.2.2.2.1.ext g) (And.intro (G17.out.2.2.2.2.2.2.2.2.2.1.ext g) (And.intro (G17.out.2.2.2.2.2.2.2.2.2.2.1.ext g) (And.intro (G17.out.2.2.2.2.2.2.2.2.2.2.2.1.ext g) (And.intro (G17.out.2.2.2.2.2.2.2.2.2.2.2.2.1.ext g) (And.intro (G17.out.2.2.2.2.2.2.2.2.2.2.2.2.2.1.ext g) (And.intro (G17.out.2.2.2.2.2.2.2.2.2.2.2.2.2.2.1.ext g) (And.intro (G17.out.2.2.2.2.2.2.2.2.2.2.2.2.2.2.2.1.ext g) (And.intro (G17.out.2.2.2.2.2.2.2.2.2.2.2.2.2.2.2.2.1.ext g) (And.intro (G17.out.2.2.2.2.2.2.2.2.2.2.2.2.2.2.2.2.2.1.ext g) (And.intro (G17.out.2.2.2.2.2.2.2.2.2.2.2.2.2.2.2.2.2.2.1.ext g) (And.intro (G17.out.2.2.2.2.2.2.2.2.2.2.2.2.2.2.2.2.2.2.2.1.ext g) (And.intro (G17.out.2.2.2.2.2.2.2.2.2.2.2.2.2.2.2.2.2.2.2.2.1.ext g) (And.intro (G17.out.2.2.2.2.2.2.2.2.2.2.2.2.2.2.2.2.2.2.2.2.2.1.ext g) (And.intro (G17.out.2.2.2.2.2.2.2.2.2.2.2.2.2.2.2.2.2.2.2.2.2.2.1.ext g) (And.intro (G17.out.2.2.2.2.2.2.2.2.2.2.2.2.2.2.2.2.2.2.2.2.2.2.2.1.ext g) (G17.out.2.2.2.2.2.2.2.2.2.2.2.2.2.2.2.2.2.2.2.2.2.2.2.2.ext g)))))))))))))))))))))))))
      clear g G17
      rw [decide_eq_true (by rw [HT1.out]; exact absorbed_u (up_treeP p) (up_treeP q) HR.out.1 HR.out.2)]
      go_wp2_with fail
      refine (Same_any _ _ _ (interI (opOf mL) (treeP p) (treeP (unionI (opOf mR) (treeP p) (treeP q)))) (treeP p) G18.out.2.2.2.2.2.2.2.2.2.2.2.2.2.1 G18.out.2.2.2.1 (by have := Ok.length HOk1.out; omega)).mono ?_
      rintro e W19 ⟨rfl, g⟩
      have G19 := hid0 (And.intro (G18.out.1.trans g) (And.intro (G18.out.2.1.ext g) (And.intro (G18.out.2.2.1.ext g) (And.intro (G18.out.2.2.2.1.ext g) (And.intro (G18.out.2.2.2.2.1.ext g) (And.intro (G18.out.2.2.2.2.2.1.ext g) (And.intro (G18.out.2.2.2.2.2.2.1.ext g) (And.intro (G18.out.2.2.2.2.2.2.2.1.ext g) (And.intro (G18.out.2.2.2.2.2.2.2.2.1.ext g) (And.intro (G18.out.2.2.2.2.2.2.2.2.2.1.ext g) (And.intro (G18.out.2.2.2.2.2.2.2.2.2.2.1.ext g) (And.intro (G18.out.2.2.2.2.2.2.2.2.2.2.2.1.ext g) (And.intro (G18.out.2.2.2.2.2.2.2.2.2.2.2.2.1.ext g) (And.intro (G18.out.2.2.2.2.2.2.2.2.2.2.2.2.2.1.ext g) (And.intro (G18.out.2.2.2.2.2.2.2.2.2.2.2.2.2.2.1.ext g) (And.intro (G18.out.2.2.2.2.2.2.2.2.2.2.2.2.2.2.2.1.ext g) (And.intro (G18.out.2.2.2.2.2.2.2.2.2.2.2.2.2.2.2.2.1.ext g) (And.intro (G18.out.2.2.2.2.2.2.2.2.2.2.2.2.2.2.2.2.2.1.ext g) (And.intro (G18.out.2.2.2.2.2.2.2.2.2.2.2.2.2.2.2.2.2.2.1.ext g) (And.intro (G18.out.2.2.2.2.2.2.2.2.2.2.2.2.2.2.2.2.2.2.2.1.ext g) (And.intro (G18.out.2.2.2.2.2.2.2.2.2.2.2.2.2.2.2.2.2.2.2.2.1.ext g) (And.intro (G18.out.2.2.2.2.2.2.2.2.2.2.2.2.2.2.2.2.2.2.2.2.2.1.ext g) (And.intro (G18.out.2.2.2.2.2.2.2.2.2.2.2.2.2.2.2.2.2.2.2.2.2.2.1.ext g) (And.intro (G18.out.2.2.2.2.2.2.2.2.2.2.2.2.2.2.2.2.2.2.2.2.2.2.2.1.ext g) (G18.out.2.2.2.2.2.2.2.2.2.2.2.2.2.2.2.2.2.2.2.2.2.2.2.2.ext g)))))))))))))))))))))))))
      clear g G18
      rw [decide_eq_true (by rw [HT2.out]; exact absorbed_i (up_treeP p) (up_treeP q) HR.out.1 HR.out.2)]
      go_wp2_with fail
      refine (Same_any _ _ _ (unionI (opOf mN) (treeP p) (treeP p)) (treeP p) G19.out.2.2.2.2.2.2.2.2.2.2.2.2.2.2.2.2.1 G19.out.2.2.2.1 (by have := Ok.length HOa1.out; omega)).mono ?_
      rintro e W20 ⟨rfl, g⟩
      have G20 := hid0 (And.intro (G19.out.1.trans g) (And.intro (G19.out.2.1.ext g) (And.intro (G19.out.2.2.1.ext g) (And.intro (G19.out.2.2.2.1.ext g) (And.intro (G19.out.2.2.2.2.1.ext g) (And.intro (G19.out.2.2.2.2.2.1.ext g) (And.intro (G19.out.2.2.2.2.2.2.1.ext g) (And.intro (G19.out.2.2.2.2.2.2.2.1.ext g) (And.intro (G19.out.2.2.2.2.2.2.2.2.1.ext g) (And.intro (G19.out.2.2.2.2.2.2.2.2.2.1.ext g) (And.intro (G19.out.2.2.2.2.2.2.2.2.2.2.1.ext g) (And.intro (G19.out.2.2.2.2.2.2.2.2.2.2.2.1.ext g) (And.intro (G19.out.2.2.2.2.2.2.2.2.2.2.2.2.1.ext g) (And.intro (G19.out.2.2.2.2.2.2.2.2.2.2.2.2.2.1.ext g) (And.intro (G19.out.2.2.2.2.2.2.2.2.2.2.2.2.2.2.1.ext g) (And.intro (G19.out.2.2.2.2.2.2.2.2.2.2.2.2.2.2.2.1.ext g) (And.intro (G19.out.2.2.2.2.2.2.2.2.2.2.2.2.2.2.2.2.1.ext g) (And.intro (G19.out.2.2.2.2.2.2.2.2.2.2.2.2.2.2.2.2.2.1.ext g) (And.intro (G19.out.2.2.2.2.2.2.2.2.2.2.2.2.2.2.2.2.2.2.1.ext g) (And.intro (G19.out.2.2.2.2.2.2.2.2.2.2.2.2.2.2.2.2.2.2.2.1.ext g) (And.intro (G19.out.2.2.2.2.2.2.2.2.2.2.2.2.2.2.2.2.2.2.2.2.1.ext g) (And.intro (G19.out.2.2.2.2.2.2.2.2.2.2.2.2.2.2.2.2.2.2.2.2.2.1.ext g) (And.intro (G19.out.2.2.2.2.2.2.2.2.2.2.2.2.2.2.2.2.2.2.2.2.2.2.1.ext g) (And.intro (G19.out.2.2.2.2.2.2.2.2.2.2.2.2.2.2.2.2.2.2.2.2.2.2.2.1.ext g) (G19.out.2.2.2.2.2.2.2.2.2.2.2.2.2.2.2.2.2.2.2.2.2.2.2.2.ext g)))))))))))))))))))))))))
      clear g G19
      rw [decide_eq_true (self_u (up_treeP p))]
      go_wp2_with fail
      refine (Same_any _ _ _ (interI (opOf mN) (treeP p) (treeP p)) (treeP p) G20.out.2.2.2.2.2.2.2.2.2.2.2.2.2.2.2.2.2.2.2.1 G20.out.2.2.2.1 (by have := Ok.length HOb1.out; omega)).mono ?_
      rintro e W21 ⟨rfl, g⟩
      have G21 := hid0 (And.intro (G20.out.1.trans g) (And.intro (G20.out.2.1.ext g) (And.intro (G20.out.2.2.1.ext g) (And.intro (G20.out.2.2.2.1.ext g) (And.intro (G20.out.2.2.2.2.1.ext g) (And.intro (G20.out.2.2.2.2.2.1.ext g) (And.intro (G20.out.2.2.2.2.2.2.1.ext g) (And.intro (G20.out.2.2.2.2.2.2.2.1.ext g) (And.intro (G20.out.2.2.2.2.2.2.2.2.1.ext g) (And.intro (G20.out.2.2.2.2.2.2.2.2.2.1.ext g) (And.intro (G20.out.2.2.2.2.2.2.2.2.2.2.1.ext g) (And.intro (G20.out.2.2.2.2.2.2.2.2.2.2.2.1.ext g) (And.intro (G20.out.2.2.2.2.2.2.2.2.2.2.2.2.1.ext g) (And.intro (G20.out.2.2.2.2.2.2.2.2.2.2.2.2.2.1.ext g) (And.intro (G20.out.2.2.2.2.2.2.2.2.2.2.2.2.2.2.1.ext g) (And.intro (G20.out.2.2.2.2.2.2.2.2.2.2.2.2.2.2.2.1.ext g) (And.intro (G20.out.2.2.2.2.2.2.2.2.2.2.2.2.2.2.2.2.1.ext g) (And.intro (G20.out.2.2.2.2.2.2.2.2.2.2.2.2.2.2.2.2.2.1.ext g) (And.intro (G20.out.2.2.2.2.2.2.2.2.2.2.2.2.2.2.2.2.2.2.1.ext g) (And.intro (G20.out.2.2.2.2.2.2.2.2.2.2.2.2.2.2.2.2.2.2.2.1.ext g) (And.intro (G20.out.2.2.2.2.2.2.2.2.2.2.2.2.2.2.2.2.2.2.2.2.1.ext g) (And.intro (G20.out.2.2.2.2.2.2.2.2.2.2.2.2.2.2.2.2.2.2.2.2.2.1.ext g) (And.intro (G20.out.2.2.2.2.2.2.2.2.2.2.2.2.2.2.2.2.2.2.2.2.2.2.1.ext g) (And.intro (G20.out.2.2.2.2.2.2.2.2.2.2.2.2.2.2.2.2.2.2.2.2.2.2.2.1.ext g) (G20.out.2.2.2.2.2.2.2.2.2.2.2.2.2.2.2.2.2.2.2.2.2.2.2.2.ext g)))))))))))))))))))))))))
      clear g G20
      rw [decide_eq_true (self_i (up_treeP p))]
      rw [self_d (up_treeP p)]
      go_wp2
      go_ret
      exact ⟨rfl, G21.out.1⟩

end Go.Proofs.Ytdmfnlhbddejiaa
