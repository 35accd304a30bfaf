/- The walk of FnDistributive. -/
import Derived.Test.YtdmfnlhbddejiaaImplU
namespace Go.Proofs.Ytdmfnlhbddejiaa
open Go.RowKit

set_option maxRecDepth 100000 in
set_option maxHeartbeats 4000000 in
theorem FnDistributive_walk (w : World) (vp : Value) (p : Ps) (hp : SlP w vp p) (lp : p.length ≤ 8796093021952) (wp : KeysW p) (dp : DataR p) (vq : Value) (q : Ps) (hq : SlP w vq q) (lq : q.length ≤ 8796093021952) (wq : KeysW q) (dq : DataR q) (vr : Value) (r : Ps) (hr : SlP w vr r) (lr : r.length ≤ 8796093021952) (wr : KeysW r) (dr : DataR r) :
    Calls Try.prog 13 #[vp, vq, vr] w fun e w' => e = .returned (.bool true) ∧ Kept Non w w' := by
  have HWp := hid0 wp
  have HDp := hid0 dp
  have HWq := hid0 wq
  have HDq := hid0 dq
  have HWr := hid0 wr
  have HDr := hid0 dr
  have G0 := hid0 (And.intro (Kept.refl Non w) (And.intro (hp) (And.intro (hq) (hr))))
  have HLp := hid0 (treeP_len0 wp)
  have HLq := hid0 (treeP_len0 wq)
  have HLr := hid0 (treeP_len0 wr)
  clear hp wp dp hq wq dq hr wr dr
  cases hkp : keyedB p with
  | false =>
    have HKp := hid0 hkp
    clear hkp
    go_enter Try.func13, Try.ntmps13
    go_wp2_with fail
    refine (keyed_any _ _ p G0.out.2.1 (by omega)).mono ?_
    rintro e W1 ⟨rfl, g⟩
    have G1 := hid0 (And.intro (G0.out.1.trans g) (And.intro (G0.out.2.1.ext g) (And.intro (G0.out.2.2.1.ext g) (G0.out.2.2.2.ext g))))
    clear g G0
    rw [HKp.out]
    go_wp2
    go_ret
    exact ⟨rfl, G1.out.1⟩
  | true =>
    have HKp := hid0 hkp
    clear hkp
    cases hkq : keyedB q with
    | false =>
      have HKq := hid0 hkq
      clear hkq
      go_enter Try.func13, Try.ntmps13
      go_wp2_with fail
      refine (keyed_any _ _ p G0.out.2.1 (by omega)).mono ?_
      rintro e W1 ⟨rfl, g⟩
      have G1 := hid0 (And.intro (G0.out.1.trans g) (And.intro (G0.out.2.1.ext g) (And.intro (G0.out.2.2.1.ext g) (G0.out.2.2.2.ext g))))
      clear g G0
      rw [HKp.out]
      go_wp2_with fail
      refine (keyed_any _ _ q G1.out.2.2.1 (by omega)).mono ?_
      rintro e W2 ⟨rfl, g⟩
      have G2 := hid0 (And.intro (G1.out.1.trans g) (And.intro (G1.out.2.1.ext g) (And.intro (G1.out.2.2.1.ext g) (G1.out.2.2.2.ext g))))
      clear g G1
      rw [HKq.out]
      go_wp2
      go_ret
      exact ⟨rfl, G2.out.1⟩
    | true =>
      have HKq := hid0 hkq
      clear hkq
      cases hkr : keyedB r with
      | false =>
        have HKr := hid0 hkr
        clear hkr
        go_enter Try.func13, Try.ntmps13
        go_wp2_with fail
        refine (keyed_any _ _ p G0.out.2.1 (by omega)).mono ?_
        rintro e W1 ⟨rfl, g⟩
        have G1 := hid0 (And.intro (G0.out.1.trans g) (And.intro (G0.out.2.1.ext g) (And.intro (G0.out.2.2.1.ext g) (G0.out.2.2.2.ext g))))
        clear g G0
        rw [HKp.out]
        go_wp2_with fail
        refine (keyed_any _ _ q G1.out.2.2.1 (by omega)).mono ?_
        rintro e W2 ⟨rfl, g⟩
        have G2 := hid0 (And.intro (G1.out.1.trans g) (And.intro (G1.out.2.1.ext g) (And.intro (G1.out.2.2.1.ext g) (G1.out.2.2.2.ext g))))
        clear g G1
        rw [HKq.out]
        go_wp2_with fail
        refine (keyed_any _ _ r G2.out.2.2.2 (by omega)).mono ?_
        rintro e W3 ⟨rfl, g⟩
        have G3 := hid0 (And.intro (G2.out.1.trans g) (And.intro (G2.out.2.1.ext g) (And.intro (G2.out.2.2.1.ext g) (G2.out.2.2.2.ext g))))
        clear g G2
        rw [HKr.out]
        go_wp2
        go_ret
        exact ⟨rfl, G3.out.1⟩
      | true =>
        have HKr := hid0 hkr
        clear hkr
        go_enter Try.func13, Try.ntmps13
        go_wp2_with fail
        refine (keyed_any _ _ p G0.out.2.1 (by omega)).mono ?_
        rintro e W1 ⟨rfl, g⟩
        have G1 := hid0 (And.intro (G0.out.1.trans g) (And.intro (G0.out.2.1.ext g) (And.intro (G0.out.2.2.1.ext g) (G0.out.2.2.2.ext g))))
        clear g G0
        rw [HKp.out]
        go_wp2_with fail
        refine (keyed_any _ _ q G1.out.2.2.1 (by omega)).mono ?_
        rintro e W2 ⟨rfl, g⟩
        have G2 := hid0 (And.intro (G1.out.1.trans g) (And.intro (G1.out.2.1.ext g) (And.intro (G1.out.2.2.1.ext g) (G1.out.2.2.2.ext g))))
        clear g G1
        rw [HKq.out]
        go_wp2_with fail
        refine (keyed_any _ _ r G2.out.2.2.2 (by omega)).mono ?_
        rintro e W3 ⟨rfl, g⟩
        have G3 := hid0 (And.intro (G2.out.1.trans g) (And.intro (G2.out.2.1.ext g) (And.intro (G2.out.2.2.1.ext g) (G2.out.2.2.2.ext g))))
        clear g G2
        rw [HKr.out]
        have HR := hid0 (And.intro (Rg.tree HDp.out) (Rg.tree HDr.out))
        go_wp2_with fail
        refine (right_any _).mono ?_
        rintro e W4 ⟨rfl, g⟩
        have G4 := hid0 (And.intro (G3.out.1.trans g) (And.intro (G3.out.2.1.ext g) (And.intro (G3.out.2.2.1.ext g) (G3.out.2.2.2.ext g))))
        clear g G3
        go_wp2_with fail
        refine (IUnion_any _ _ _ (q) (r) mR G4.out.2.2.1 G4.out.2.2.2 (by omega) (by omega) (HWq.out.ok HKq.out) (HWr.out.ok HKr.out)).mono ?_
        rintro e W5 ⟨a1v, a2v, a3v, rfl, s1, s2, s3, s4, g⟩
        obtain ⟨a1a, a1c, rfl⟩ := s1.form
        obtain ⟨a2a, a2c, rfl⟩ := s2.form
        obtain ⟨a3a, a3c, rfl⟩ := s3.form
        have HOa1 := hid0 s4
        have G5 := hid0 (And.intro (G4.out.1.trans g) (And.intro (G4.out.2.1.ext g) (And.intro (G4.out.2.2.1.ext g) (And.intro (G4.out.2.2.2.ext g) (And.intro (s1) (And.intro (s2) (s3)))))))
        clear g s1 s2 s3 s4 G4
        have HT1 := hid0 (treeP_up HOa1.out.srt)
        go_wp2_with fail
        refine (right_any _).mono ?_
        rintro e W6 ⟨rfl, g⟩
        have G6 := hid0 (And.intro (G5.out.1.trans g) (And.intro (G5.out.2.1.ext g) (And.intro (G5.out.2.2.1.ext g) (And.intro (G5.out.2.2.2.1.ext g) (And.intro (G5.out.2.2.2.2.1.ext g) (And.intro (G5.out.2.2.2.2.2.1.ext g) (G5.out.2.2.2.2.2.2.ext g)))))))
        clear g G5
        go_wp2_with fail
        refine (IIntersection_any _ _ _ (unionI (opOf mR) (treeP q) (treeP r)) (p) mR G6.out.2.2.2.2.1 G6.out.2.1 (by have := Ok.length HOa1.out; omega) (by omega) (HOa1.out.rng) (HWp.out.ok HKp.out)).mono ?_
        rintro e W7 ⟨x1v, x2v, x3v, rfl, s1, s2, s3, s4, g⟩
        obtain ⟨x1a, x1c, rfl⟩ := s1.form
        obtain ⟨x2a, x2c, rfl⟩ := s2.form
        obtain ⟨x3a, x3c, rfl⟩ := s3.form
        have HOx1 := hid0 s4
        have G7 := hid0 (And.intro (G6.out.1.trans g) (And.intro (G6.out.2.1.ext g) (And.intro (G6.out.2.2.1.ext g) (And.intro (G6.out.2.2.2.1.ext g) (And.intro (G6.out.2.2.2.2.1.ext g) (And.intro (G6.out.2.2.2.2.2.1.ext g) (And.intro (G6.out.2.2.2.2.2.2.ext g) (And.intro (s1) (And.intro (s2) (s3))))))))))
        clear g s1 s2 s3 s4 G6
        go_wp2_with fail
        refine (right_any _).mono ?_
        rintro e W8 ⟨rfl, g⟩
        have G8 := hid0 (And.intro (G7.out.1.trans g) (And.intro (G7.out.2.1.ext g) (And.intro (G7.out.2.2.1.ext g) (And.intro (G7.out.2.2.2.1.ext g) (And.intro (G7.out.2.2.2.2.1.ext g) (And.intro (G7.out.2.2.2.2.2.1.ext g) (And.intro (G7.out.2.2.2.2.2.2.1.ext g) (And.intro (G7.out.2.2.2.2.2.2.2.1.ext g) (And.intro (G7.out.2.2.2.2.2.2.2.2.1.ext g) (G7.out.2.2.2.2.2.2.2.2.2.ext g))))))))))
        clear g G7
        go_wp2_with fail
        refine (IIntersection_any _ _ _ (q) (p) mR G8.out.2.2.1 G8.out.2.1 (by omega) (by omega) (HWq.out.ok HKq.out) (HWp.out.ok HKp.out)).mono ?_
        rintro e W9 ⟨b1v, b2v, b3v, rfl, s1, s2, s3, s4, g⟩
        obtain ⟨b1a, b1c, rfl⟩ := s1.form
        obtain ⟨b2a, b2c, rfl⟩ := s2.form
        obtain ⟨b3a, b3c, rfl⟩ := s3.form
        have HOb1 := hid0 s4
        have G9 := hid0 (And.intro (G8.out.1.trans g) (And.intro (G8.out.2.1.ext g) (And.intro (G8.out.2.2.1.ext g) (And.intro (G8.out.2.2.2.1.ext g) (And.intro (G8.out.2.2.2.2.1.ext g) (And.intro (G8.out.2.2.2.2.2.1.ext g) (And.intro (G8.out.2.2.2.2.2.2.1.ext g) (And.intro (G8.out.2.2.2.2.2.2.2.1.ext g) (And.intro (G8.out.2.2.2.2.2.2.2.2.1.ext g) (And.intro (G8.out.2.2.2.2.2.2.2.2.2.ext g) (And.intro (s1) (And.intro (s2) (s3)))))))))))))
        clear g s1 s2 s3 s4 G8
        go_wp2_with fail
        refine (right_any _).mono ?_
        rintro e W10 ⟨rfl, g⟩
        have G10 := hid0 (And.intro (G9.out.1.trans g) (And.intro (G9.out.2.1.ext g) (And.intro (G9.out.2.2.1.ext g) (And.intro (G9.out.2.2.2.1.ext g) (And.intro (G9.out.2.2.2.2.1.ext g) (And.intro (G9.out.2.2.2.2.2.1.ext g) (And.intro (G9.out.2.2.2.2.2.2.1.ext g) (And.intro (G9.out.2.2.2.2.2.2.2.1.ext g) (And.intro (G9.out.2.2.2.2.2.2.2.2.1.ext g) (And.intro (G9.out.2.2.2.2.2.2.2.2.2.1.ext g) (And.intro (G9.out.2.2.2.2.2.2.2.2.2.2.1.ext g) (And.intro (G9.out.2.2.2.2.2.2.2.2.2.2.2.1.ext g) (G9.out.2.2.2.2.2.2.2.2.2.2.2.2.ext g)))))))))))))
        clear g G9
        go_wp2_with fail
        refine (IIntersection_any _ _ _ (r) (p) mR G10.out.2.2.2.1 G10.out.2.1 (by omega) (by omega) (HWr.out.ok HKr.out) (HWp.out.ok HKp.out)).mono ?_
        rintro e W11 ⟨c1v, c2v, c3v, rfl, s1, s2, s3, s4, g⟩
        obtain ⟨c1a, c1c, rfl⟩ := s1.form
        obtain ⟨c2a, c2c, rfl⟩ := s2.form
        obtain ⟨c3a, c3c, rfl⟩ := s3.form
        have HOc1 := hid0 s4
        have G11 := hid0 (And.intro (G10.out.1.trans g) (And.intro (G10.out.2.1.ext g) (And.intro (G10.out.2.2.1.ext g) (And.intro (G10.out.2.2.2.1.ext g) (And.intro (G10.out.2.2.2.2.1.ext g) (And.intro (G10.out.2.2.2.2.2.1.ext g) (And.intro (G10.out.2.2.2.2.2.2.1.ext g) (And.intro (G10.out.2.2.2.2.2.2.2.1.ext g) (And.intro (G10.out.2.2.2.2.2.2.2.2.1.ext g) (And.intro (G10.out.2.2.2.2.2.2.2.2.2.1.ext g) (And.intro (G10.out.2.2.2.2.2.2.2.2.2.2.1.ext g) (And.intro (G10.out.2.2.2.2.2.2.2.2.2.2.2.1.ext g) (And.intro (G10.out.2.2.2.2.2.2.2.2.2.2.2.2.ext g) (And.intro (s1) (And.intro (s2) (s3))))))))))))))))
        clear g s1 s2 s3 s4 G10
        have HT2 := hid0 (treeP_up HOb1.out.srt)
        have HT3 := hid0 (treeP_up HOc1.out.srt)
        go_wp2_with fail
        refine (right_any _).mono ?_
        rintro e W12 ⟨rfl, g⟩
        have G12 := hid0 (And.intro (G11.out.1.trans g) (And.intro (G11.out.2.1.ext g) (And.intro (G11.out.2.2.1.ext g) (And.intro (G11.out.2.2.2.1.ext g) (And.intro (G11.out.2.2.2.2.1.ext g) (And.intro (G11.out.2.2.2.2.2.1.ext g) (And.intro (G11.out.2.2.2.2.2.2.1.ext g) (And.intro (G11.out.2.2.2.2.2.2.2.1.ext g) (And.intro (G11.out.2.2.2.2.2.2.2.2.1.ext g) (And.intro (G11.out.2.2.2.2.2.2.2.2.2.1.ext g) (And.intro (G11.out.2.2.2.2.2.2.2.2.2.2.1.ext g) (And.intro (G11.out.2.2.2.2.2.2.2.2.2.2.2.1.ext g) (And.intro (G11.out.2.2.2.2.2.2.2.2.2.2.2.2.1.ext g) (And.intro (G11.out.2.2.2.2.2.2.2.2.2.2.2.2.2.1.ext g) (And.intro (G11.out.2.2.2.2.2.2.2.2.2.2.2.2.2.2.1.ext g) (G11.out.2.2.2.2.2.2.2.2.2.2.2.2.2.2.2.ext g))))))))))))))))
        clear g G11
        go_wp2_with fail
        refine (IUnion_any _ _ _ (interI (opOf mR) (treeP q) (treeP p)) (interI (opOf mR) (treeP r) (treeP p)) mR G12.out.2.2.2.2.2.2.2.2.2.2.1 G12.out.2.2.2.2.2.2.2.2.2.2.2.2.2.1 (by have := Ok.length HOb1.out; omega) (by have := Ok.length HOc1.out; omega) (HOb1.out.rng) (HOc1.out.rng)).mono ?_
        rintro e W13 ⟨y1v, y2v, y3v, rfl, s1, s2, s3, s4, g⟩
        obtain ⟨y1a, y1c, rfl⟩ := s1.form
        obtain ⟨y2a, y2c, rfl⟩ := s2.form
        obtain ⟨y3a, y3c, rfl⟩ := s3.form
        have HOy1 := hid0 s4
        have G13 := hid0 (And.intro (G12.out.1.trans g) (And.intro (G12.out.2.1.ext g) (And.intro (G12.out.2.2.1.ext g) (And.intro (G12.out.2.2.2.1.ext g) (And.intro (G12.out.2.2.2.2.1.ext g) (And.intro (G12.out.2.2.2.2.2.1.ext g) (And.intro (G12.out.2.2.2.2.2.2.1.ext g) (And.intro (G12.out.2.2.2.2.2.2.2.1.ext g) (And.intro (G12.out.2.2.2.2.2.2.2.2.1.ext g) (And.intro (G12.out.2.2.2.2.2.2.2.2.2.1.ext g) (And.intro (G12.out.2.2.2.2.2.2.2.2.2.2.1.ext g) (And.intro (G12.out.2.2.2.2.2.2.2.2.2.2.2.1.ext g) (And.intro (G12.out.2.2.2.2.2.2.2.2.2.2.2.2.1.ext g) (And.intro (G12.out.2.2.2.2.2.2.2.2.2.2.2.2.2.1.ext g) (And.intro (G12.out.2.2.2.2.2.2.2.2.2.2.2.2.2.2.1.ext g) (And.intro (G12.out.2.2.2.2.2.2.2.2.2.2.2.2.2.2.2.ext g) (And.intro (s1) (And.intro (s2) (s3)))))))))))))))))))
        clear g s1 s2 s3 s4 G12
        go_wp2_with fail
        refine (Same_any _ _ _ (interI (opOf mR) (treeP (unionI (opOf mR) (treeP q) (treeP r))) (treeP p)) (unionI (opOf mR) (treeP (interI (opOf mR) (treeP q) (treeP p))) (treeP (interI (opOf mR) (treeP r) (treeP p)))) G13.out.2.2.2.2.2.2.2.1 G13.out.2.2.2.2.2.2.2.2.2.2.2.2.2.2.2.2.1 (by have := Ok.length HOx1.out; omega)).mono ?_
        rintro e W14 ⟨rfl, g⟩
        have G14 := hid0 (And.intro (G13.out.1.trans g) (And.intro (G13.out.2.1.ext g) (And.intro (G13.out.2.2.1.ext g) (And.intro (G13.out.2.2.2.1.ext g) (And.intro (G13.out.2.2.2.2.1.ext g) (And.intro (G13.out.2.2.2.2.2.1.ext g) (And.intro (G13.out.2.2.2.2.2.2.1.ext g) (And.intro (G13.out.2.2.2.2.2.2.2.1.ext g) (And.intro (G13.out.2.2.2.2.2.2.2.2.1.ext g) (And.intro (G13.out.2.2.2.2.2.2.2.2.2.1.ext g) (And.intro (G13.out.2.2.2.2.2.2.2.2.2.2.1.ext g) (And.intro (G13.out.2.2.2.2.2.2.2.2.2.2.2.1.ext g) (And.intro (G13.out.2.2.2.2.2.2.2.2.2.2.2.2.1.ext g) (And.intro (G13.out.2.2.2.2.2.2.2.2.2.2.2.2.2.1.ext g) (And.intro (G13.out.2.2.2.2.2.2.2.2.2.2.2.2.2.2.1.ext g) (And.intro (G13.out.2.2.2.2.2.2.2.2.2.2.2.2.2.2.2.1.ext g) (And.intro (G13.out.2.2.2.2.2.2.2.2.2.2.2.2.2.2.2.2.1.ext g) (And.intro (G13.out.2.2.2.2.2.2.2.2.2.2.2.2.2.2.2.2.2.1.ext g) (G13.out.2.2.2.2.2.2.2.2.2.2.2.2.2.2.2.2.2.2.ext g)))))))))))))))))))
        clear g G13
        rw [decide_eq_true (by rw [HT1.out, HT2.out, HT3.out]; exact distr_1 (up_treeP p) (up_treeP q) (up_treeP r) HR.out.1 HR.out.2)]
        go_wp2_with fail
        refine (no_any _).mono ?_
        rintro e W15 ⟨rfl, g⟩
        have G15 := hid0 (And.intro (G14.out.1.trans g) (And.intro (G14.out.2.1.ext g) (And.intro (G14.out.2.2.1.ext g) (And.intro (G14.out.2.2.2.1.ext g) (And.intro (G14.out.2.2.2.2.1.ext g) (And.intro (G14.out.2.2.2.2.2.1.ext g) (And.intro (G14.out.2.2.2.2.2.2.1.ext g) (And.intro (G14.out.2.2.2.2.2.2.2.1.ext g) (And.intro (G14.out.2.2.2.2.2.2.2.2.1.ext g) (And.intro (G14.out.2.2.2.2.2.2.2.2.2.1.ext g) (And.intro (G14.out.2.2.2.2.2.2.2.2.2.2.1.ext g) (And.intro (G14.out.2.2.2.2.2.2.2.2.2.2.2.1.ext g) (And.intro (G14.out.2.2.2.2.2.2.2.2.2.2.2.2.1.ext g) (And.intro (G14.out.2.2.2.2.2.2.2.2.2.2.2.2.2.1.ext g) (And.intro (G14.out.2.2.2.2.2.2.2.2.2.2.2.2.2.2.1.ext g) (And.intro (G14.out.2.2.2.2.2.2.2.2.2.2.2.2.2.2.2.1.ext g) (And.intro (G14.out.2.2.2.2.2.2.2.2.2.2.2.2.2.2.2.2.1.ext g) (And.intro (G14.out.2.2.2.2.2.2.2.2.2.2.2.2.2.2.2.2.2.1.ext g) (G14.out.2.2.2.2.2.2.2.2.2.2.2.2.2.2.2.2.2.2.ext g)))))))))))))))))))
        clear g G14
        go_wp2_with fail
        refine (IDifference_any _ _ _ (p) (unionI (opOf mR) (treeP q) (treeP r)) mN G15.out.2.1 G15.out.2.2.2.2.1 (by omega) (by have := Ok.length HOa1.out; omega) (HWp.out.ok HKp.out) (HOa1.out.rng)).mono ?_
        rintro e W16 ⟨d1v, d2v, d3v, rfl, s1, s2, s3, s4, g⟩
        obtain ⟨d1a, d1c, rfl⟩ := s1.form
        obtain ⟨d2a, d2c, rfl⟩ := s2.form
        obtain ⟨d3a, d3c, rfl⟩ := s3.form
        have HOd1 := hid0 s4
        have G16 := hid0 (And.intro (G15.out.1.trans g) (And.intro (G15.out.2.1.ext g) (And.intro (G15.out.2.2.1.ext g) (And.intro (G15.out.2.2.2.1.ext g) (And.intro (G15.out.2.2.2.2.1.ext g) (And.intro (G15.out.2.2.2.2.2.1.ext g) (And.intro (G15.out.2.2.2.2.2.2.1.ext g) (And.intro (G15.out.2.2.2.2.2.2.2.1.ext g) (And.intro (G15.out.2.2.2.2.2.2.2.2.1.ext g) (And.intro (G15.out.2.2.2.2.2.2.2.2.2.1.ext g) (And.intro (G15.out.2.2.2.2.2.2.2.2.2.2.1.ext g) (And.intro (G15.out.2.2.2.2.2.2.2.2.2.2.2.1.ext g) (And.intro (G15.out.2.2.2.2.2.2.2.2.2.2.2.2.1.ext g) (And.intro (G15.out.2.2.2.2.2.2.2.2.2.2.2.2.2.1.ext g) (And.intro (G15.out.2.2.2.2.2.2.2.2.2.2.2.2.2.2.1.ext g) (And.intro (G15.out.2.2.2.2.2.2.2.2.2.2.2.2.2.2.2.1.ext g) (And.intro (G15.out.2.2.2.2.2.2.2.2.2.2.2.2.2.2.2.2.1.ext g) (And.intro (G15.out.2.2.2.2.2.2.2.2.2.2.2.2.2.2.2.2.2.1.ext g) (And.intro (G15.out.2.2.2.2.2.2.2.2.2.2.2.2.2.2.2.2.2.2.ext g) (And.intro (s1) (And.intro (s2) (s3))))))))))))))))))))))
        clear g s1 s2 s3 s4 G15
        go_wp2_with fail
        refine (no_any _).mono ?_
        rintro e W17 ⟨rfl, g⟩
        have G17 := hid0 (And.intro (G16.out.1.trans g) (And.intro (G16.out.2.1.ext g) (And.intro (G16.out.2.2.1.ext g) (And.intro (G16.out.2.2.2.1.ext g) (And.intro (G16.out.2.2.2.2.1.ext g) (And.intro (G16.out.2.2.2.2.2.1.ext g) (And.intro (G16.out.2.2.2.2.2.2.1.ext g) (And.intro (G16.out.2.2.2.2.2.2.2.1.ext g) (And.intro (G16.out.2.2.2.2.2.2.2.2.1.ext g) (And.intro (G16.out.2.2.2.2.2.2.2.2.2.1.ext g) (And.intro (G16.out.2.2.2.2.2.2.2.2.2.2.1.ext g) (And.intro (G16.out.2.2.2.2.2.2.2.2.2.2.2.1.ext g) (And.intro (G16.out.2.2.2.2.2.2.2.2.2.2.2.2.1.ext g) (And.intro (G16.out.2.2.2.2.2.2.2.2.2.2.2.2.2.1.ext g) (And.intro (G16.out.2.2.2.2.2.2.2.2.2.2.2.2.2.2.1.ext g) (And.intro (G16.out.2.2.2.2.2.2.2.2.2.2.2.2.2.2.2.1.ext g) (And.intro (G16.out.2.2.2.2.2.2.2.2.2.2.2.2.2.2.2.2.1.ext g) (And.intro (G16.out.2.2.2.2.2.2.2.2.2.2.2.2.2.2.2.2.2.1.ext g) (And.intro (G16.out.2.2.2.2.2.2.2.2.2.2.2.2.2.2.2.2.2.2.1.ext g) (And.intro (G16.out.2.2.2.2.2.2.2.2.2.2.2.2.2.2.2.2.2.2.2.1.ext g) (And.intro (G16.out.2.2.2.2.2.2.2.2.2.2.2.2.2.2.2.2.2.2.2.2.1.ext g) (G16.out.2.2.2.2.2.2.2.2.2.2.2.2.2.2.2.2.2.2.2.2.2.ext g))))))))))))))))))))))
        clear g G16
        go_wp2_with fail
        refine (IDifference_any _ _ _ (p) (q) mN G17.out.2.1 G17.out.2.2.1 (by omega) (by omega) (HWp.out.ok HKp.out) (HWq.out.ok HKq.out)).mono ?_
        rintro e W18 ⟨e1v, e2v, e3v, rfl, s1, s2, s3, s4, g⟩
        obtain ⟨e1a, e1c, rfl⟩ := s1.form
        obtain ⟨e2a, e2c, rfl⟩ := s2.form
        obtain ⟨e3a, e3c, rfl⟩ := s3.form
        have HOe1 := hid0 s4
        have G18 := hid0 (And.intro (G17.out.1.trans g) (And.intro (G17.out.2.1.ext g) (And.intro (G17.out.2.2.1.ext g) (And.intro (G17.out.2.2.2.1.ext g) (And.intro (G17.out.2.2.2.2.1.ext g) (And.intro (G17.out.2.2.2.2.2.1.ext g) (And.intro (G17.out.2.2.2.2.2.2.1.ext g) (And.intro (G17.out.2.2.2.2.2.2.2.1.ext g) (And.intro (G17.out.2.2.2.2.2.2.2.2.1.ext g) (And.intro (G17.out.2.2.2.2.2.2.2.2.2.1.ext g) (And.intro (G17.out.2.2.2.2.2.2.2.2.2.2.1.ext g) (And.intro (G17.out.2.2.2.2.2.2.2.2.2.2.2.1.ext g) (And.intro (G17.out.2.2.2.2.2.2.2.2.2.2.2.2.1.ext g) (And.intro (G17.out.2.2.2.2.2.2.2.2.2.2.2.2.2.1.ext g) (And.intro (G17.out.2.2.2.2.2.2.2.2.2.2.2.2.2.2.1.ext g) (And.intro (G17.out.2.2.2.2.2.2.2.2.2.2.2.2.2.2.2.1.ext g) (And.intro (G17.out.2.2.2.2.2.2.2.2.2.2.2.2.2.2.2.2.1.ext g) (And.intro (G17.out.2.2.2.2.2.2.2.2.2.2.2.2.2.2.2.2.2.1.ext g) (And.intro (G17.out.2.2.2.2.2.2.2.2.2.2.2.2.2.2.2.2.2.2.1.ext g) (And.intro (G17.out.2.2.2.2.2.2.2.2.2.2.2.2.2.2.2.2.2.2.2.1.ext g) (And.intro (G17.out.2.2.2.2.2.2.2.2.2.2.2.2.2.2.2.2.2.2.2.2.1.ext g) (And.intro (G17.out.2.2.2.2.2.2.2.2.2.2.2.2.2.2.2.2.2.2.2.2.2.ext g) (And.intro (s1) (And.intro (s2) (s3)))))))))))))))))))))))))
        clear g s1 s2 s3 s4 G17
        go_wp2_with fail
        refine (no_any _).mono ?_
        rintro e W19 ⟨rfl, g⟩
        have G19 := hid0 (And.intro (G18.out.1.trans g) (And.intro (G18.out.2.1.ext g) (And.intro (G18.out.2.2.1.ext g) (And.intro (G18.out.2.2.2.1.ext g) (And.intro (G18.out.2.2.2.2.1.ext g) (And.intro (G18.out.2.2.2.2.2.1.ext g) (And.intro (G18.out.2.2.2.2.2.2.1.ext g) (And.intro (G18.out.2.2.2.2.2.2.2.1.ext g) (And.intro (G18.out.2.2.2.2.2.2.2.2.1.ext g) (And.intro (G18.out.2.2.2.2.2.2.2.2.2.1.ext g) (And.intro (G18.out.2.2.2.2.2.2.2.2.2.2.1.ext g) (And.intro (G18.out.2.2.2.2.2.2.2.2.2.2.2.1.ext g) (And.intro (G18.out.2.2.2.2.2.2.2.2.2.2.2.2.1.ext g) (And.intro (G18.out.2.2.2.2.2.2.2.2.2.2.2.2.2.1.ext g) (And.intro (G18.out.2.2.2.2.2.2.2.2.2.2.2.2.2.2.1.ext g) (And.intro (G18.out.2.2.2.2.2.2.2.2.2.2.2.2.2.2.2.1.ext g) (And.intro (G18.out.2.2.2.2.2.2.2.2.2.2.2.2.2.2.2.2.1.ext g) (And.intro (G18.out.2.2.2.2.2.2.2.2.2.2.2.2.2.2.2.2.2.1.ext g) (And.intro (G18.out.2.2.2.2.2.2.2.2.2.2.2.2.2.2.2.2.2.2.1.ext g) (And.intro (G18.out.2.2.2.2.2.2.2.2.2.2.2.2.2.2.2.2.2.2.2.1.ext g) (And.intro (G18.out.2.2.2.2.2.2.2.2.2.2.2.2.2.2.2.2.2.2.2.2.1.ext g) (And.intro (G18.out.2.2.2.2.2.2.2.2.2.2.2.2.2.2.2.2.2.2.2.2.2.1.ext g) (And.intro (G18.out.2.2.2.2.2.2.2.2.2.2.2.2.2.2.2.2.2.2.2.2.2.2.1.ext g) (And.intro (G18.out.2.2.2.2.2.2.2.2.2.2.2.2.2.2.2.2.2.2.2.2.2.2.2.1.ext g) (G18.out.2.2.2.2.2.2.2.2.2.2.2.2.2.2.2.2.2.2.2.2.2.2.2.2.ext g)))))))))))))))))))))))))
        clear g G18
        go_wp2_with fail
        refine (IDifference_any _ _ _ (p) (r) mN G19.out.2.1 G19.out.2.2.2.1 (by omega) (by omega) (HWp.out.ok HKp.out) (HWr.out.ok HKr.out)).mono ?_
        rintro e W20 ⟨f1v, f2v, f3v, rfl, s1, s2, s3, s4, g⟩
        obtain ⟨f1a, f1c, rfl⟩ := s1.form
        obtain ⟨f2a, f2c, rfl⟩ := s2.form
        obtain ⟨f3a, f3c, rfl⟩ := s3.form
        have HOf1 := hid0 s4
        have G20 := hid0 (And.intro (G19.out.1.trans g) (And.intro (G19.out.2.1.ext g) (And.intro (G19.out.2.2.1.ext g) (And.intro (G19.out.2.2.2.1.ext g) (And.intro (G19.out.2.2.2.2.1.ext g) (And.intro (G19.out.2.2.2.2.2.1.ext g) (And.intro (G19.out.2.2.2.2.2.2.1.ext g) (And.intro (G19.out.2.2.2.2.2.2.2.1.ext g) (And.intro (G19.out.2.2.2.2.2.2.2.2.1.ext g) (And.intro (G19.out.2.2.2.2.2.2.2.2.2.1.ext g) (And.intro (G19.out.2.2.2.2.2.2.2.2.2.2.1.ext g) (And.intro (G19.out.2.2.2.2.2.2.2.2.2.2.2.1.ext g) (And.intro (G19.out.2.2.2.2.2.2.2.2.2.2.2.2.1.ext g) (And.intro (G19.out.2.2.2.2.2.2.2.2.2.2.2.2.2.1.ext g) (And.intro (G19.out.2.2.2.2.2.2.2.2.2.2.2.2.2.2.1.ext g) (And.intro (G19.out.2.2.2.2.2.2.2.2.2.2.2.2.2.2.2.1.ext g) (And.intro (G19.out.2.2.2.2.2.2.2.2.2.2.2.2.2.2.2.2.1.ext g) (And.intro (G19.out.2.2.2.2.2.2.2.2.2.2.2.2.2.2.2.2.2.1.ext g) (And.intro (G19.out.2.2.2.2.2.2.2.2.2.2.2.2.2.2.2.2.2.2.1.ext g) (And.intro (G19.out.2.2.2.2.2.2.2.2.2.2.2.2.2.2.2.2.2.2.2.1.ext g) (And.intro (G19.out.2.2.2.2.2.2.2.2.2.2.2.2.2.2.2.2.2.2.2.2.1.ext g) (And.intro (G19.out.2.2.2.2.2.2.2.2.2.2.2.2.2.2.2.2.2.2.2.2.2.1.ext g) (And.intro (G19.out.2.2.2.2.2.2.2.2.2.2.2.2.2.2.2.2.2.2.2.2.2.2.1.ext g) (And.intro (G19.out.2.2.2.2.2.2.2.2.2.2.2.2.2.2.2.2.2.2.2.2.2.2.2.1.ext g) (And.intro (G19.out.2.2.2.2.2.2.2.2.2.2.2.2.2.2.2.2.2.2.2.2.2.2.2.2.ext g) (And.intro (s1) (And.intro (s2) (s3))))))))))))))))))))))))))))
        clear g s1 s2 s3 s4 G19
        have HT4 := hid0 (treeP_up HOe1.out.srt)
        have HT5 := hid0 (treeP_up HOf1.out.srt)
        go_wp2_with fail
        refine (no_any _).mono ?_
        rintro e W21 ⟨rfl, g⟩
        have G21 := hid0 (And.intro (G20.out.1.trans g) (And.intro (G20.out.2.1.ext g) (And.intro (G20.out.2.2.1.ext g) (And.intro (G20.out.2.2.2.1.ext g) (And.intro (G20.out.2.2.2.2.1.ext g) (And.intro (G20.out.2.2.2.2.2.1.ext g) (And.intro (G20.out.2.2.2.2.2.2.1.ext g) (And.intro (G20.out.2.2.2.2.2.2.2.1.ext g) (And.intro (G20.out.2.2.2.2.2.2.2.2.1.ext g) (And.intro (G20.out.2.2.2.2.2.2.2.2.2.1.ext g) (And.intro (G20.out.2.2.2.2.2.2.2.2.2.2.1.ext g) (And.intro (G20.out.2.2.2.2.2.2.2.2.2.2.2.1.ext g) (And.intro (G20.out.2.2.2.2.2.2.2.2.2.2.2.2.1.ext g) (And.intro (G20.out.2.2.2.2.2.2.2.2.2.2.2.2.2.1.ext g) (And.intro (G20.out.2.2.2.2.2.2.2.2.2.2.2.2.2.2.1.ext g) (And.intro (G20.out.2.2.2.2.2.2.2.2.2.2.2.2.2.2.2.1.ext g) (And.intro (G20.out.2.2.2.2.2.2.2.2.2.2.2.2.2.2.2.2.1.ext g) (And.intro (G20.out.2.2.2.2.2.2.2.2.2.2.2.2.2.2.2.2.2.1.ext g) (And.intro (G20.out.2.2.2.2.2.2.2.2.2.2.2.2.2.2.2.2.2.2.1.ext g) (And.intro (G20.out.2.2.2.2.2.2.2.2.2.2.2.2.2.2.2.2.2.2.2.1.ext g) (And.intro (G20.out.2.2.2.2.2.2.2.2.2.2.2.2.2.2.2.2.2.2.2.2.1.ext g) (And.intro (G20.out.2.2.2.2.2.2.2.2.2.2.2.2.2.2.2.2.2.2.2.2.2.1.ext g) (And.intro (G20.out.2.2.2.2.2.2.2.2.2.2.2.2.2.2.2.2.2.2.2.2.2.2.1.ext g) (And.intro (G20.out.2.2.2.2.2.2.2.2.2.2.2.2.2.2.2.2.2.2.2.2.2.2.2.1.ext g) (And.intro (G20.out.2.2.2.2.2.2.2.2.2.2.2.2.2.2.2.2.2.2.2.2.2.2.2.2.1.ext g) (And.intro (G20.out.2.2.2.2.2.2.2.2.2.2.2.2.2.2.2.2.2.2.2.2.2.2.2.2.2.1.ext g) (And.intro (G20.out.2.2.2.2.2.2.2.2.2.2.2.2.2.2.2.2.2.2.2.2.2.2.2.2.2.2.1.ext g) (G20.out.2.2.2.2.2.2.2.2.2.2.2.2.2.2.2.2.2.2.2.2.2.2.2.2.2.2.2.ext g))))))))))))))))))))))))))))
        clear g G20
        go_wp2_with fail
        refine (IDifference_any _ _ _ (diffI (opOf mN) (treeP p) (treeP q)) (r) mN G21.out.2.2.2.2.2.2.2.2.2.2.2.2.2.2.2.2.2.2.2.2.2.2.1 G21.out.2.2.2.1 (by have := Ok.length HOe1.out; omega) (by omega) (HOe1.out.rng) (HWr.out.ok HKr.out)).mono ?_
        rintro e W22 ⟨h1v, h2v, h3v, rfl, s1, s2, s3, s4, g⟩
        obtain ⟨h1a, h1c, rfl⟩ := s1.form
        obtain ⟨h2a, h2c, rfl⟩ := s2.form
        obtain ⟨h3a, h3c, rfl⟩ := s3.form
        have HOh1 := hid0 s4
        have G22 := hid0 (And.intro (G21.out.1.trans g) (And.intro (G21.out.2.1.ext g) (And.intro (G21.out.2.2.1.ext g) (And.intro (G21.out.2.2.2.1.ext g) (And.intro (G21.out.2.2.2.2.1.ext g) (And.intro (G21.out.2.2.2.2.2.1.ext g) (And.intro (G21.out.2.2.2.2.2.2.1.ext g) (And.intro (G21.out.2.2.2.2.2.2.2.1.ext g) (And.intro (G21.out.2.2.2.2.2.2.2.2.1.ext g) (And.intro (G21.out.2.2.2.2.2.2.2.2.2.1.ext g) (And.intro (G21.out.2.2.2.2.2.2.2.2.2.2.1.ext g) (And.intro (G21.out.2.2.2.2.2.2.2.2.2.2.2.1.ext g) (And.intro (G21.out.2.2.2.2.2.2.2.2.2.2.2.2.1.ext g) (And.intro (G21.out.2.2.2.2.2.2.2.2.2.2.2.2.2.1.ext g) (And.intro (G21.out.2.2.2.2.2.2.2.2.2.2.2.2.2.2.1.ext g) (And.intro (G21.out.2.2.2.2.2.2.2.2.2.2.2.2.2.2.2.1.ext g) (And.intro (G21.out.2.2.2.2.2.2.2.2.2.2.2.2.2.2.2.2.1.ext g) (And.intro (G21.out.2.2.2.2.2.2.2.2.2.2.2.2.2.2.2.2.2.1.ext g) (And.intro (G21.out.2.2.2.2.2.2.2.2.2.2.2.2.2.2.2.2.2.2.1.ext g) (And.intro (G21.out.2.2.2.2.2.2.2.2.2.2.2.2.2.2.2.2.2.2.2.1.ext g) (And.intro (G21.out.2.2.2.2.2.2.2.2.2.2.2.2.2.2.2.2.2.2.2.2.1.ext g) (And.intro (G21.out.2.2.2.2.2.2.2.2.2.2.2.2.2.2.2.2.2.2.2.2.2.1.ext g) (And.intro (G21.out.2.2.2.2.2.2.2.2.2.2.2.2.2.2.2.2.2.2.2.2.2.2.1.ext g) (And.intro (G21.out.2.2.2.2.2.2.2.2.2.2.2.2.2.2.2.2.2.2.2.2.2.2.2.1.ext g) (And.intro (G21.out.2.2.2.2.2.2.2.2.2.2.2.2.2.2.2.2.2.2.2.2.2.2.2.2.1.ext g) (And.intro (G21.out.2.2.2.2.2.2.2.2.2.2.2.2.2.2.2.2.2.2.2.2.2.2.2.2.2.1.ext g) (And.intro (G21.out.2.2.2.2.2.2.2.2.2.2.2.2.2.2.2.2.2.2.2.2.2.2.2.2.2.2.1.ext g) (And.intro (G21.out.2.2.2.2.2.2.2.2.2.2.2.2.2.2.2.2.2.2.2.2.2.2.2.2.2.2.2.ext g) (And.intro (s1) (And.intro (s2) (s3)))))))))))))))))))))))))))))))
        clear g s1 s2 s3 s4 G21
        go_wp2_with fail
        refine (right_any _).mono ?_
        rintro e W23 ⟨rfl, g⟩
        have G23 := hid0 (And.intro (G22.out.1.trans g) (And.intro (G22.out.2.1.ext g) (And.intro (G22.out.2.2.1.ext g) (And.intro (G22.out.2.2.2.1.ext g) (And.intro (G22.out.2.2.2.2.1.ext g) (And.intro (G22.out.2.2.2.2.2.1.ext g) (And.intro (G22.out.2.2.2.2.2.2.1.ext g) (And.intro (G22.out.2.2.2.2.2.2.2.1.ext g) (And.intro (G22.out.2.2.2.2.2.2.2.2.1.ext g) (And.intro (G22.out.2.2.2.2.2.2.2.2.2.1.ext g) (And.intro (G22.out.2.2.2.2.2.2.2.2.2.2.1.ext g) (And.intro (G22.out.2.2.2.2.2.2.2.2.2.2.2.1.ext g) (And.intro (G22.out.2.2.2.2.2.2.2.2.2.2.2.2.1.ext g) (And.intro (G22.out.2.2.2.2.2.2.2.2.2.2.2.2.2.1.ext g) (And.intro (G22.out.2.2.2.2.2.2.2.2.2.2.2.2.2.2.1.ext g) (And.intro (G22.out.2.2.2.2.2.2.2.2.2.2.2.2.2.2.2.1.ext g) (And.intro (G22.out.2.2.2.2.2.2.2.2.2.2.2.2.2.2.2.2.1.ext g) (And.intro (G22.out.2.2.2.2.2.2.2.2.2.2.2.2.2.2.2.2.2.1.ext g) (And.intro (G22.out.2.2.2.2.2.2.2.2.2.2.2.2.2.2.2.2.2.2.1.ext g) (And.intro (G22.out.2.2.2.2.2.2.2.2.2.2.2.2.2.2.2.2.2.2.2.1.ext g) (And.intro (G22.out.2.2.2.2.2.2.2.2.2.2.2.2.2.2.2.2.2.2.2.2.1.ext g) (And.intro (G22.out.2.2.2.2.2.2.2.2.2.2.2.2.2.2.2.2.2.2.2.2.2.1.ext g) (And.intro (G22.out.2.2.2.2.2.2.2.2.2.2.2.2.2.2.2.2.2.2.2.2.2.2.1.ext g) (And.intro (G22.out.2.2.2.2.2.2.2.2.2.2.2.2.2.2.2.2.2.2.2.2.2.2.2.1.ext g) (And.intro (G22.out.2.2.2.2.2.2.2.2.2.2.2.2.2.2.2.2.2.2.2.2.2.2.2.2.1.ext g) (And.intro (G22.out.2.2.2.2.2.2.2.2.2.2.2.2.2.2.2.2.2.2.2.2.2.2.2.2.2.1.ext g) (And.intro (G22.out.2.2.2.2.2.2.2.2.2.2.2.2.2.2.2.2.2.2.2.2.2.2.2.2.2.2.1.ext g) (And.intro (G22.out.2.2.2.2.2.2.2.2.2.2.2.2.2.2.2.2.2.2.2.2.2.2.2.2.2.2.2.1.ext g) (And.intro (G22.out.2.2.2.2.2.2.2.2.2.2.2.2.2.2.2.2.2.2.2.2.2.2.2.2.2.2.2.2.1.ext g) (And.intro (G22.out.2.2.2.2.2.2.2.2.2.2.2.2.2.2.2.2.2.2.2.2.2.2.2.2.2.2.2.2.2.1.ext g) (G22.out.2.2.2.2.2.2.2.2.2.2.2.2.2.2.2.2.2.2.2.2.2.2.2.2.2.2.2.2.2.2.ext g)))))))))))))))))))))))))))))))
        clear g G22
        go_wp2_with fail
        refine (IIntersection_any _ _ _ (diffI (opOf mN) (treeP p) (treeP q)) (diffI (opOf mN) (treeP p) (treeP r)) mR G23.out.2.2.2.2.2.2.2.2.2.2.2.2.2.2.2.2.2.2.2.2.2.2.1 G23.out.2.2.2.2.2.2.2.2.2.2.2.2.2.2.2.2.2.2.2.2.2.2.2.2.2.1 (by have := Ok.length HOe1.out; omega) (by have := Ok.length HOf1.out; omega) (HOe1.out.rng) (HOf1.out.rng)).mono ?_
        rintro e W24 ⟨i1v, i2v, i3v, rfl, s1, s2, s3, s4, g⟩
        obtain ⟨i1a, i1c, rfl⟩ := s1.form
        obtain ⟨i2a, i2c, rfl⟩ := s2.form
        obtain ⟨i3a, i3c, rfl⟩ := s3.form
        have HOi1 := hid0 s4
        have G24 := hid0 (And.intro (G23.out.1.trans g) (And.intro (G23.out.2.1.ext g) (And.intro (G23.out.2.2.1.ext g) (And.intro (G23.out.2.2.2.1.ext g) (And.intro (G23.out.2.2.2.2.1.ext g) (And.intro (G23.out.2.2.2.2.2.1.ext g) (And.intro (G23.out.2.2.2.2.2.2.1.ext g) (And.intro (G23.out.2.2.2.2.2.2.2.1.ext g) (And.intro (G23.out.2.2.2.2.2.2.2.2.1.ext g) (And.intro (G23.out.2.2.2.2.2.2.2.2.2.1.ext g) (And.intro (G23.out.2.2.2.2.2.2.2.2.2.2.1.ext g) (And.intro (G23.out.2.2.2.2.2.2.2.2.2.2.2.1.ext g) (And.intro (G23.out.2.2.2.2.2.2.2.2.2.2.2.2.1.ext g) (And.intro (G23.out.2.2.2.2.2.2.2.2.2.2.2.2.2.1.ext g) (And.intro (G23.out.2.2.2.2.2.2.2.2.2.2.2.2.2.2.1.ext g) (And.intro (G23.out.2.2.2.2.2.2.2.2.2.2.2.2.2.2.2.1.ext g) (And.intro (G23.out.2.2.2.2.2.2.2.2.2.2.2.2.2.2.2.2.1.ext g) (And.intro (G23.out.2.2.2.2.2.2.2.2.2.2.2.2.2.2.2.2.2.1.ext g) (And.intro (G23.out.2.2.2.2.2.2.2.2.2.2.2.2.2.2.2.2.2.2.1.ext g) (And.intro (G23.out.2.2.2.2.2.2.2.2.2.2.2.2.2.2.2.2.2.2.2.1.ext g) (And.intro (G23.out.2.2.2.2.2.2.2.2.2.2.2.2.2.2.2.2.2.2.2.2.1.ext g) (And.intro (G23.out.2.2.2.2.2.2.2.2.2.2.2.2.2.2.2.2.2.2.2.2.2.1.ext g) (And.intro (G23.out.2.2.2.2.2.2.2.2.2.2.2.2.2.2.2.2.2.2.2.2.2.2.1.ext g) (And.intro (G23.out.2.2.2.2.2.2.2.2.2.2.2.2.2.2.2.2.2.2.2.2.2.2.2.1.ext g) (And.intro (G23.out.2.2.2.2.2.2.2.2.2.2.2.2.2.2.2.2.2.2.2.2.2.2.2.2.1.ext g) (And.intro (G23.out.2.2.2.2.2.2.2.2.2.2.2.2.2.2.2.2.2.2.2.2.2.2.2.2.2.1.ext g) (And.intro (G23.out.2.2.2.2.2.2.2.2.2.2.2.2.2.2.2.2.2.2.2.2.2.2.2.2.2.2.1.ext g) (And.intro (G23.out.2.2.2.2.2.2.2.2.2.2.2.2.2.2.2.2.2.2.2.2.2.2.2.2.2.2.2.1.ext g) (And.intro (G23.out.2.2.2.2.2.2.2.2.2.2.2.2.2.2.2.2.2.2.2.2.2.2.2.2.2.2.2.2.1.ext g) (And.intro (G23.out.2.2.2.2.2.2.2.2.2.2.2.2.2.2.2.2.2.2.2.2.2.2.2.2.2.2.2.2.2.1.ext g) (And.intro (G23.out.2.2.2.2.2.2.2.2.2.2.2.2.2.2.2.2.2.2.2.2.2.2.2.2.2.2.2.2.2.2.ext g) (And.intro (s1) (And.intro (s2) (s3))))))))))))))))))))))))))))))))))
        clear g s1 s2 s3 s4 G23
        go_wp2_with fail
        refine (Same_any _ _ _ (diffI (opOf mN) (treeP p) (treeP (unionI (opOf mR) (treeP q) (treeP r)))) (diffI (opOf mN) (treeP (diffI (opOf mN) (treeP p) (treeP q))) (treeP r)) G24.out.2.2.2.2.2.2.2.2.2.2.2.2.2.2.2.2.2.2.2.1 G24.out.2.2.2.2.2.2.2.2.2.2.2.2.2.2.2.2.2.2.2.2.2.2.2.2.2.2.2.2.1 (by have := Ok.length HOd1.out; omega)).mono ?_
        rintro e W25 ⟨rfl, g⟩
        have G25 := hid0 (And.intro (G24.out.1.trans g) (And.intro (G24.out.2.1.ext g) (And.intro (G24.out.2.2.1.ext g) (And.intro (G24.out.2.2.2.1.ext g) (And.intro (G24.out.2.2.2.2.1.ext g) (And.intro (G24.out.2.2.2.2.2.1.ext g) (And.intro (G24.out.2.2.2.2.2.2.1.ext g) (And.intro (G24.out.2.2.2.2.2.2.2.1.ext g) (And.intro (G24.out.2.2.2.2.2.2.2.2.1.ext g) (And.intro (G24.out.2.2.2.2.2.2.2.2.2.1.ext g) (And.intro (G24.out.2.2.2.2.2.2.2.2.2.2.1.ext g) (And.intro (G24.out.2.2.2.2.2.2.2.2.2.2.2.1.ext g) (And.intro (G24.out.2.2.2.2.2.2.2.2.2.2.2.2.1.ext g) (And.intro (G24.out.2.2.2.2.2.2.2.2.2.2.2.2.2.1.ext g) (And.intro (G24.out.2.2.2.2.2.2.2.2.2.2.2.2.2.2.1.ext g) (And.intro (G24.out.2.2.2.2.2.2.2.2.2.2.2.2.2.2.2.1.ext g) (And.intro (G24.out.2.2.2.2.2.2.2.2.2.2.2.2.2.2.2.2.1.ext g) (And.intro (G24.out.2.2.2.2.2.2.2.2.2.2.2.2.2.2.2.2.2.1.ext g) (And.intro (G24.out.2.2.2.2.2.2.2.2.2.2.2.2.2.2.2.2.2.2.1.ext g) (And.intro (G24.out.2.2.2.2.2.2.2.2.2.2.2.2.2.2.2.2.2.2.2.1.ext g) (And.intro (G24.out.2.2.2.2.2.2.2.2.2.2.2.2.2.2.2.2.2.2.2.2.1.ext g) (And.intro (G24.out.2.2.2.2.2.2.2.2.2.2.2.2.2.2.2.2.2.2.2.2.2.1.ext g) (And.intro (G24.out.2.2.2.2.2.2.2.2.2.2.2.2.2.2.2.2.2.2.2.2.2.2.1.ext g) (And.intro (G24.out.2.2.2.2.2.2.2.2.2.2.2.2.2.2.2.2.2.2.2.2.2.2.2.1.ext g) (And.intro (G24.out.2.2.2.2.2.2.2.2.2.2.2.2.2.2.2.2.2.2.2.2.2.2.2.2.1.ext g) (And.intro (G24.out.2.2.2.2.2.2.2.2.2.2.2.2.2.2.2.2.2.2.2.2.2.2.2.2.2.1.ext g) (And.intro (G24.out.2.2.2.2.2.2.2.2.2.2.2.2.2.2.2.2.2.2.2.2.2.2.2.2.2.2.1.ext g) (And.intro (G24.out.2.2.2.2.2.2.2.2.2.2.2.2.2.2.2.2.2.2.2.2.2.2.2.2.2.2.2.1.ext g) (And.intro (G24.out.2.2.2.2.2.2.2.2.2.2.2.2.2.2.2.2.2.2.2.2.2.2.2.2.2.2.2.2.1.ext g) (And.intro (G24.out.2.2.2.2.2.2.2.2.2.2.2.2.2.2.2.2.2.2.2.2.2.2.2.2.2.2.2.2.2.1.ext g) (And.intro (G24.out.2.2.2.2.2.2.2.2.2.2.2.2.2.2.2.2.2.2.2.2.2.2.2.2.2.2.2.2.2.2.1.ext g) (And.intro (G24.out.2.2.2.2.2.2.2.2.2.2.2.2.2.2.2.2.2.2.2.2.2.2.2.2.2.2.2.2.2.2.2.1.ext g) (And.intro (G24.out.2.2.2.2.2.2.2.2.2.2.2.2.2.2.2.2.2.2.2.2.2.2.2.2.2.2.2.2.2.2.2.2.1.ext g) (G24.out.2.2.2.2.2.2.2.2.2.2.2.2.2.2.2.2.2.2.2.2.2.2.2.2.2.2.2.2.2.2.2.2.2.ext g))))))))))))))))))))))))))))))))))
        clear g G24
        rw [decide_eq_true (by rw [HT1.out, HT4.out]; exact distr_2 (up_treeP p) (up_treeP q) (up_treeP r) HR.out.2)]
        go_wp2_with fail
        refine (Same_any _ _ _ (diffI (opOf mN) (treeP p) (treeP (unionI (opOf mR) (treeP q) (treeP r)))) (interI (opOf mR) (treeP (diffI (opOf mN) (treeP p) (treeP q))) (treeP (diffI (opOf mN) (treeP p) (treeP r)))) G25.out.2.2.2.2.2.2.2.2.2.2.2.2.2.2.2.2.2.2.2.1 G25.out.2.2.2.2.2.2.2.2.2.2.2.2.2.2.2.2.2.2.2.2.2.2.2.2.2.2.2.2.2.2.2.1 (by have := Ok.length HOd1.out; omega)).mono ?_
        rintro e W26 ⟨rfl, g⟩
        have G26 := hid0 (And.intro (G25.out.1.trans g) (And.intro (G25.out.2.1.ext g) (And.intro (G25.out.2.2.1.ext g) (And.intro (G25.out.2.2.2.1.ext g) (And.intro (G25.out.2.2.2.2.1.ext g) (And.intro (G25.out.2.2.2.2.2.1.ext g) (And.intro (G25.out.2.2.2.2.2.2.1.ext g) (And.intro (G25.out.2.2.2.2.2.2.2.1.ext g) (And.intro (G25.out.2.2.2.2.2.2.2.2.1.ext g) (And.intro (G25.out.2.2.2.2.2.2.2.2.2.1.ext g) (And.intro (G25.out.2.2.2.2.2.2.2.2.2.2.1.ext g) (And.intro (G25.out.2.2.2.2.2.2.2.2.2.2.2.1.ext g) (And.intro (G25.out.2.2.2.2.2.2.2.2.2.2.2.2.1.ext g) (And.intro (G25.out.2.2.2.2.2.2.2.2.2.2.2.2.2.1.ext g) (And.intro (G25.out.2.2.2.2.2.2.2.2.2.2.2.2.2.2.1.ext g) (And.intro (G25.out.2.2.2.2.2.2.2.2.2.2.2.2.2.2.2.1.ext g) (And.intro (G25.out.2.2.2.2.2.2.2.2.2.2.2.2.2.2.2.2.1.ext g) (And.intro (G25.out.2.2.2.2.2.2.2.2.2.2.2.2.2.2.2.2.2.1.ext g) (And.intro (G25.out.2.2.2.2.2.2.2.2.2.2.2.2.2.2.2.2.2.2.1.ext g) (And.intro (G25.out.2.2.2.2.2.2.2.2.2.2.2.2.2.2.2.2.2.2.2.1.ext g) (And.intro (G25.out.2.2.2.2.2.2.2.2.2.2.2.2.2.2.2.2.2.2.2.2.1.ext g) (And.intro (G25.out.2.2.2.2.2.2.2.2.2.2.2.2.2.2.2.2.2.2.2.2.2.1.ext g) (And.intro (G25.out.2.2.2.2.2.2.2.2.2.2.2.2.2.2.2.2.2.2.2.2.2.2.1.ext g) (And.intro (G25.out.2.2.2.2.2.2.2.2.2.2.2.2.2.2.2.2.2.2.2.2.2.2.2.1.ext g) (And.intro (G25.out.2.2.2.2.2.2.2.2.2.2.2.2.2.2.2.2.2.2.2.2.2.2.2.2.1.ext g) (And.intro (G25.out.2.2.2.2.2.2.2.2.2.2.2.2.2.2.2.2.2.2.2.2.2.2.2.2.2.1.ext g) (And.intro (G25.out.2.2.2.2.2.2.2.2.2.2.2.2.2.2.2.2.2.2.2.2.2.2.2.2.2.2.1.ext g) (And.intro (G25.out.2.2.2.2.2.2.2.2.2.2.2.2.2.2.2.2.2.2.2.2.2.2.2.2.2.2.2.1.ext g) (And.intro (G25.out.2.2.2.2.2.2.2.2.2.2.2.2.2.2.2.2.2.2.2.2.2.2.2.2.2.2.2.2.1.ext g) (And.intro (G25.out.2.2.2.2.2.2.2.2.2.2.2.2.2.2.2.2.2.2.2.2.2.2.2.2.2.2.2.2.2.1.ext g) (And.intro (G25.out.2.2.2.2.2.2.2.2.2.2.2.2.2.2.2.2.2.2.2.2.2.2.2.2.2.2.2.2.2.2.1.ext g) (And.intro (G25.out.2.2.2.2.2.2.2.2.2.2.2.2.2.2.2.2.2.2.2.2.2.2.2.2.2.2.2.2.2.2.2.1.ext g) (And.intro (G25.out.2.2.2.2.2.2.2.2.2.2.2.2.2.2.2.2.2.2.2.2.2.2.2.2.2.2.2.2.2.2.2.2.1.ext g) (G25.out.2.2.2.2.2.2.2.2.2.2.2.2.2.2.2.2.2.2.2.2.2.2.2.2.2.2.2.2.2.2.2.2.2.ext g))))))))))))))))))))))))))))))))))
        clear g G25
        rw [decide_eq_true (by rw [HT1.out, HT4.out, HT5.out]; exact distr_3 (up_treeP p) (up_treeP q) (up_treeP r) HR.out.1 HR.out.2)]
        go_wp2_with fail
        refine (Tree_any _ _ q G26.out.2.2.1 (by omega) HWq.out).mono ?_
        rintro e W27 ⟨uv, rfl, o, g⟩
        obtain ⟨ua, uc, rfl⟩ := (OwnP.sl o).form
        have G27 := hid0 (And.intro (G26.out.1.trans g) (And.intro (G26.out.2.1.ext g) (And.intro (G26.out.2.2.1.ext g) (And.intro (G26.out.2.2.2.1.ext g) (And.intro (G26.out.2.2.2.2.1.ext g) (And.intro (G26.out.2.2.2.2.2.1.ext g) (And.intro (G26.out.2.2.2.2.2.2.1.ext g) (And.intro (G26.out.2.2.2.2.2.2.2.1.ext g) (And.intro (G26.out.2.2.2.2.2.2.2.2.1.ext g) (And.intro (G26.out.2.2.2.2.2.2.2.2.2.1.ext g) (And.intro (G26.out.2.2.2.2.2.2.2.2.2.2.1.ext g) (And.intro (G26.out.2.2.2.2.2.2.2.2.2.2.2.1.ext g) (And.intro (G26.out.2.2.2.2.2.2.2.2.2.2.2.2.1.ext g) (And.intro (G26.out.2.2.2.2.2.2.2.2.2.2.2.2.2.1.ext g) (And.intro (G26.out.2.2.2.2.2.2.2.2.2.2.2.2.2.2.1.ext g) (And.intro (G26.out.2.2.2.2.2.2.2.2.2.2.2.2.2.2.2.1.ext g) (And.intro (G26.out.2.2.2.2.2.2.2.2.2.2.2.2.2.2.2.2.1.ext g) (And.intro (G26.out.2.2.2.2.2.2.2.2.2.2.2.2.2.2.2.2.2.1.ext g) (And.intro (G26.out.2.2.2.2.2.2.2.2.2.2.2.2.2.2.2.2.2.2.1.ext g) (And.intro (G26.out.2.2.2.2.2.2.2.2.2.2.2.2.2.2.2.2.2.2.2.1.ext g) (And.intro (G26.out.2.2.2.2.2.2.2.2.2.2.2.2.2.2.2.2.2.2.2.2.1.ext g) (And.intro (G26.out.2.2.2.2.2.2.2.2.2.2.2.2.2.2.2.2.2.2.2.2.2.1.ext g) (And.intro (G26.out.2.2.2.2.2.2.2.2.2.2.2.2.2.2.2.2.2.2.2.2.2.2.1.ext g) (And.intro (G26.out.2.2.2.2.2.2.2.2.2.2.2.2.2.2.2.2.2.2.2.2.2.2.2.1.ext g) (And.intro (G26.out.2.2.2.2.2.2.2.2.2.2.2.2.2.2.2.2.2.2.2.2.2.2.2.2.1.ext g) (And.intro (G26.out.2.2.2.2.2.2.2.2.2.2.2.2.2.2.2.2.2.2.2.2.2.2.2.2.2.1.ext g) (And.intro (G26.out.2.2.2.2.2.2.2.2.2.2.2.2.2.2.2.2.2.2.2.2.2.2.2.2.2.2.1.ext g) (And.intro (G26.out.2.2.2.2.2.2.2.2.2.2.2.2.2.2.2.2.2.2.2.2.2.2.2.2.2.2.2.1.ext g) (And.intro (G26.out.2.2.2.2.2.2.2.2.2.2.2.2.2.2.2.2.2.2.2.2.2.2.2.2.2.2.2.2.1.ext g) (And.intro (G26.out.2.2.2.2.2.2.2.2.2.2.2.2.2.2.2.2.2.2.2.2.2.2.2.2.2.2.2.2.2.1.ext g) (And.intro (G26.out.2.2.2.2.2.2.2.2.2.2.2.2.2.2.2.2.2.2.2.2.2.2.2.2.2.2.2.2.2.2.1.ext g) (And.intro (G26.out.2.2.2.2.2.2.2.2.2.2.2.2.2.2.2.2.2.2.2.2.2.2.2.2.2.2.2.2.2.2.2.1.ext g) (And.intro (G26.out.2.2.2.2.2.2.2.2.2.2.2.2.2.2.2.2.2.2.2.2.2.2.2.2.2.2.2.2.2.2.2.2.1.ext g) (And.intro (G26.out.2.2.2.2.2.2.2.2.2.2.2.2.2.2.2.2.2.2.2.2.2.2.2.2.2.2.2.2.2.2.2.2.2.ext g) (OwnP.sl o)))))))))))))))))))))))))))))))))))
        clear g o G26
        have hge := union_longer (up_treeP q) (up_treeP r) HR.out.2
        generalize (unionI (opOf mR) (treeP q) (treeP r)).length = na at hge ⊢
        generalize (treeP q).length = nb at hge ⊢
        go_wp2
        go_ret
        exact ⟨rfl, G27.out.1⟩

end Go.Proofs.Ytdmfnlhbddejiaa
