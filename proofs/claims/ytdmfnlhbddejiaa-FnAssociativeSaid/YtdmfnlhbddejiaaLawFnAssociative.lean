/- The walk of FnAssociative. -/
import Derived.Test.YtdmfnlhbddejiaaImplU
namespace Go.Proofs.Ytdmfnlhbddejiaa
open Go.RowKit

set_option maxRecDepth 100000 in
set_option maxHeartbeats 1000000 in
theorem FnAssociative_walk (w : World) (vp : Value) (p : Ps) (hp : SlP w vp p) (lp : p.length ≤ 8796093021952) (wp : KeysW p) (_dp : DataR p) (vq : Value) (q : Ps) (hq : SlP w vq q) (lq : q.length ≤ 8796093021952) (wq : KeysW q) (_dq : DataR q) (vr : Value) (r : Ps) (hr : SlP w vr r) (lr : r.length ≤ 8796093021952) (wr : KeysW r) (_dr : DataR r) :
    Calls Try.prog 10 #[vp, vq, vr] w fun e w' => e = .returned (.bool true) ∧ Kept Non w w' := by
  have HWp := hid0 wp
  have HWq := hid0 wq
  have HWr := hid0 wr
  have G0 := hid0 (And.intro (Kept.refl Non w) (And.intro (hp) (And.intro (hq) (hr))))
  have HLp := hid0 (treeP_len0 wp)
  have HLq := hid0 (treeP_len0 wq)
  have HLr := hid0 (treeP_len0 wr)
  clear hp wp hq wq hr wr
  cases hkp : keyedB p with
  | false =>
    have HKp := hid0 hkp
    clear hkp
    go_enter Try.func10, Try.ntmps10
    go_wp2_with fail
    refine (keyed_any _ _ p G0.out.2.1 (by omega)).mono ?_
    rintro e W1 ⟨rfl, g⟩
    have G1 := hid0 (And.intro (G0.out.1.trans g) (And.intro (G0.out.2.1.ext g) (And.intro (G0.out.2.2.1.ext g) (G0.out.2.2.2.ext g))))
    clear g G0
    rw [HKp.out]
    go_wp2
    go_ret
    exact ⟨rfl, G1.out.1⟩
  | true =>
    have HKp := hid0 hkp
    clear hkp
    cases hkq : keyedB q with
    | false =>
      have HKq := hid0 hkq
      clear hkq
      go_enter Try.func10, Try.ntmps10
      go_wp2_with fail
      refine (keyed_any _ _ p G0.out.2.1 (by omega)).mono ?_
      rintro e W1 ⟨rfl, g⟩
      have G1 := hid0 (And.intro (G0.out.1.trans g) (And.intro (G0.out.2.1.ext g) (And.intro (G0.out.2.2.1.ext g) (G0.out.2.2.2.ext g))))
      clear g G0
      rw [HKp.out]
      go_wp2_with fail
      refine (keyed_any _ _ q G1.out.2.2.1 (by omega)).mono ?_
      rintro e W2 ⟨rfl, g⟩
      have G2 := hid0 (And.intro (G1.out.1.trans g) (And.intro (G1.out.2.1.ext g) (And.intro (G1.out.2.2.1.ext g) (G1.out.2.2.2.ext g))))
      clear g G1
      rw [HKq.out]
      go_wp2
      go_ret
      exact ⟨rfl, G2.out.1⟩
    | true =>
      have HKq := hid0 hkq
      clear hkq
      cases hkr : keyedB r with
      | false =>
        have HKr := hid0 hkr
        clear hkr
        go_enter Try.func10, Try.ntmps10
        go_wp2_with fail
        refine (keyed_any _ _ p G0.out.2.1 (by omega)).mono ?_
        rintro e W1 ⟨rfl, g⟩
        have G1 := hid0 (And.intro (G0.out.1.trans g) (And.intro (G0.out.2.1.ext g) (And.intro (G0.out.2.2.1.ext g) (G0.out.2.2.2.ext g))))
        clear g G0
        rw [HKp.out]
        go_wp2_with fail
        refine (keyed_any _ _ q G1.out.2.2.1 (by omega)).mono ?_
        rintro e W2 ⟨rfl, g⟩
        have G2 := hid0 (And.intro (G1.out.1.trans g) (And.intro (G1.out.2.1.ext g) (And.intro (G1.out.2.2.1.ext g) (G1.out.2.2.2.ext g))))
        clear g G1
        rw [HKq.out]
        go_wp2_with fail
        refine (keyed_any _ _ r G2.out.2.2.2 (by omega)).mono ?_
        rintro e W3 ⟨rfl, g⟩
        have G3 := hid0 (And.intro (G2.out.1.trans g) (And.intro (G2.out.2.1.ext g) (And.intro (G2.out.2.2.1.ext g) (G2.out.2.2.2.ext g))))
        clear g G2
        rw [HKr.out]
        go_wp2
        go_ret
        exact ⟨rfl, G3.out.1⟩
      | true =>
        have HKr := hid0 hkr
        clear hkr
        cases hkp : posB p with
        | false =>
          have HPp := hid0 hkp
          clear hkp
          go_enter Try.func10, Try.ntmps10
          go_wp2_with fail
          refine (keyed_any _ _ p G0.out.2.1 (by omega)).mono ?_
          rintro e W1 ⟨rfl, g⟩
          have G1 := hid0 (And.intro (G0.out.1.trans g) (And.intro (G0.out.2.1.ext g) (And.intro (G0.out.2.2.1.ext g) (G0.out.2.2.2.ext g))))
          clear g G0
          rw [HKp.out]
          go_wp2_with fail
          refine (keyed_any _ _ q G1.out.2.2.1 (by omega)).mono ?_
          rintro e W2 ⟨rfl, g⟩
          have G2 := hid0 (And.intro (G1.out.1.trans g) (And.intro (G1.out.2.1.ext g) (And.intro (G1.out.2.2.1.ext g) (G1.out.2.2.2.ext g))))
          clear g G1
          rw [HKq.out]
          go_wp2_with fail
          refine (keyed_any _ _ r G2.out.2.2.2 (by omega)).mono ?_
          rintro e W3 ⟨rfl, g⟩
          have G3 := hid0 (And.intro (G2.out.1.trans g) (And.intro (G2.out.2.1.ext g) (And.intro (G2.out.2.2.1.ext g) (G2.out.2.2.2.ext g))))
          clear g G2
          rw [HKr.out]
          go_wp2_with fail
          refine (positive_any _ _ p G3.out.2.1 (by omega)).mono ?_
          rintro e W4 ⟨rfl, g⟩
          have G4 := hid0 (And.intro (G3.out.1.trans g) (And.intro (G3.out.2.1.ext g) (And.intro (G3.out.2.2.1.ext g) (G3.out.2.2.2.ext g))))
          clear g G3
          rw [HPp.out]
          go_wp2
          go_ret
          exact ⟨rfl, G4.out.1⟩
        | true =>
          have HPp := hid0 hkp
          clear hkp
          cases hkq : posB q with
          | false =>
            have HPq := hid0 hkq
            clear hkq
            go_enter Try.func10, Try.ntmps10
            go_wp2_with fail
            refine (keyed_any _ _ p G0.out.2.1 (by omega)).mono ?_
            rintro e W1 ⟨rfl, g⟩
            have G1 := hid0 (And.intro (G0.out.1.trans g) (And.intro (G0.out.2.1.ext g) (And.intro (G0.out.2.2.1.ext g) (G0.out.2.2.2.ext g))))
            clear g G0
            rw [HKp.out]
            go_wp2_with fail
            refine (keyed_any _ _ q G1.out.2.2.1 (by omega)).mono ?_
            rintro e W2 ⟨rfl, g⟩
            have G2 := hid0 (And.intro (G1.out.1.trans g) (And.intro (G1.out.2.1.ext g) (And.intro (G1.out.2.2.1.ext g) (G1.out.2.2.2.ext g))))
            clear g G1
            rw [HKq.out]
            go_wp2_with fail
            refine (keyed_any _ _ r G2.out.2.2.2 (by omega)).mono ?_
            rintro e W3 ⟨rfl, g⟩
            have G3 := hid0 (And.intro (G2.out.1.trans g) (And.intro (G2.out.2.1.ext g) (And.intro (G2.out.2.2.1.ext g) (G2.out.2.2.2.ext g))))
            clear g G2
            rw [HKr.out]
            go_wp2_with fail
            refine (positive_any _ _ p G3.out.2.1 (by omega)).mono ?_
            rintro e W4 ⟨rfl, g⟩
            have G4 := hid0 (And.intro (G3.out.1.trans g) (And.intro (G3.out.2.1.ext g) (And.intro (G3.out.2.2.1.ext g) (G3.out.2.2.2.ext g))))
            clear g G3
            rw [HPp.out]
            go_wp2_with fail
            refine (positive_any _ _ q G4.out.2.2.1 (by omega)).mono ?_
            rintro e W5 ⟨rfl, g⟩
            have G5 := hid0 (And.intro (G4.out.1.trans g) (And.intro (G4.out.2.1.ext g) (And.intro (G4.out.2.2.1.ext g) (G4.out.2.2.2.ext g))))
            clear g G4
            rw [HPq.out]
            go_wp2
            go_ret
            exact ⟨rfl, G5.out.1⟩
          | true =>
            have HPq := hid0 hkq
            clear hkq
            cases hkr : posB r with
            | false =>
              have HPr := hid0 hkr
              clear hkr
              go_enter Try.func10, Try.ntmps10
              go_wp2_with fail
              refine (keyed_any _ _ p G0.out.2.1 (by omega)).mono ?_
              rintro e W1 ⟨rfl, g⟩
              have G1 := hid0 (And.intro (G0.out.1.trans g) (And.intro (G0.out.2.1.ext g) (And.intro (G0.out.2.2.1.ext g) (G0.out.2.2.2.ext g))))
              clear g G0
              rw [HKp.out]
              go_wp2_with fail
              refine (keyed_any _ _ q G1.out.2.2.1 (by omega)).mono ?_
              rintro e W2 ⟨rfl, g⟩
              have G2 := hid0 (And.intro (G1.out.1.trans g) (And.intro (G1.out.2.1.ext g) (And.intro (G1.out.2.2.1.ext g) (G1.out.2.2.2.ext g))))
              clear g G1
              rw [HKq.out]
              go_wp2_with fail
              refine (keyed_any _ _ r G2.out.2.2.2 (by omega)).mono ?_
              rintro e W3 ⟨rfl, g⟩
              have G3 := hid0 (And.intro (G2.out.1.trans g) (And.intro (G2.out.2.1.ext g) (And.intro (G2.out.2.2.1.ext g) (G2.out.2.2.2.ext g))))
              clear g G2
              rw [HKr.out]
              go_wp2_with fail
              refine (positive_any _ _ p G3.out.2.1 (by omega)).mono ?_
              rintro e W4 ⟨rfl, g⟩
              have G4 := hid0 (And.intro (G3.out.1.trans g) (And.intro (G3.out.2.1.ext g) (And.intro (G3.out.2.2.1.ext g) (G3.out.2.2.2.ext g))))
              clear g G3
              rw [HPp.out]
              go_wp2_with fail
              refine (positive_any _ _ q G4.out.2.2.1 (by omega)).mono ?_
              rintro e W5 ⟨rfl, g⟩
              have G5 := hid0 (And.intro (G4.out.1.trans g) (And.intro (G4.out.2.1.ext g) (And.intro (G4.out.2.2.1.ext g) (G4.out.2.2.2.ext g))))
              clear g G4
              rw [HPq.out]
              go_wp2_with fail
              refine (positive_any _ _ r G5.out.2.2.2 (by omega)).mono ?_
              rintro e W6 ⟨rfl, g⟩
              have G6 := hid0 (And.intro (G5.out.1.trans g) (And.intro (G5.out.2.1.ext g) (And.intro (G5.out.2.2.1.ext g) (G5.out.2.2.2.ext g))))
              clear g G5
              rw [HPr.out]
              go_wp2
              go_ret
              exact ⟨rfl, G6.out.1⟩
            | true =>
              have HPr := hid0 hkr
              clear hkr
              go_enter Try.func10, Try.ntmps10
              go_wp2_with fail
              refine (keyed_any _ _ p G0.out.2.1 (by omega)).mono ?_
              rintro e W1 ⟨rfl, g⟩
              have G1 := hid0 (And.intro (G0.out.1.trans g) (And.intro (G0.out.2.1.ext g) (And.intro (G0.out.2.2.1.ext g) (G0.out.2.2.2.ext g))))
              clear g G0
              rw [HKp.out]
              go_wp2_with fail
              refine (keyed_any _ _ q G1.out.2.2.1 (by omega)).mono ?_
              rintro e W2 ⟨rfl, g⟩
              have G2 := hid0 (And.intro (G1.out.1.trans g) (And.intro (G1.out.2.1.ext g) (And.intro (G1.out.2.2.1.ext g) (G1.out.2.2.2.ext g))))
              clear g G1
              rw [HKq.out]
              go_wp2_with fail
              refine (keyed_any _ _ r G2.out.2.2.2 (by omega)).mono ?_
              rintro e W3 ⟨rfl, g⟩
              have G3 := hid0 (And.intro (G2.out.1.trans g) (And.intro (G2.out.2.1.ext g) (And.intro (G2.out.2.2.1.ext g) (G2.out.2.2.2.ext g))))
              clear g G2
              rw [HKr.out]
              go_wp2_with fail
              refine (positive_any _ _ p G3.out.2.1 (by omega)).mono ?_
              rintro e W4 ⟨rfl, g⟩
              have G4 := hid0 (And.intro (G3.out.1.trans g) (And.intro (G3.out.2.1.ext g) (And.intro (G3.out.2.2.1.ext g) (G3.out.2.2.2.ext g))))
              clear g G3
              rw [HPp.out]
              go_wp2_with fail
              refine (positive_any _ _ q G4.out.2.2.1 (by omega)).mono ?_
              rintro e W5 ⟨rfl, g⟩
              have G5 := hid0 (And.intro (G4.out.1.trans g) (And.intro (G4.out.2.1.ext g) (And.intro (G4.out.2.2.1.ext g) (G4.out.2.2.2.ext g))))
              clear g G4
              rw [HPq.out]
              go_wp2_with fail
              refine (positive_any _ _ r G5.out.2.2.2 (by omega)).mono ?_
              rintro e W6 ⟨rfl, g⟩
              have G6 := hid0 (And.intro (G5.out.1.trans g) (And.intro (G5.out.2.1.ext g) (And.intro (G5.out.2.2.1.ext g) (G5.out.2.2.2.ext g))))
              clear g G5
              rw [HPr.out]
              have HPO := hid0 (And.intro (posB_pos HPp.out) (And.intro (posB_pos HPq.out) (posB_pos HPr.out)))
              go_wp2_with fail
              refine (sum_any _).mono ?_
              rintro e W7 ⟨rfl, g⟩
              have G7 := hid0 (And.intro (G6.out.1.trans g) (And.intro (G6.out.2.1.ext g) (And.intro (G6.out.2.2.1.ext g) (G6.out.2.2.2.ext g))))
              clear g G6
              go_wp2_with fail
              refine (IUnion_any _ _ _ (p) (q) mS G7.out.2.1 G7.out.2.2.1 (by omega) (by omega) (HWp.out.ok HKp.out) (HWq.out.ok HKq.out)).mono ?_
              rintro e W8 ⟨a1v, aa1v, ab1v, rfl, s1, s2, s3, s4, g⟩
              obtain ⟨a1a, a1c, rfl⟩ := s1.form
              obtain ⟨aa1a, aa1c, rfl⟩ := s2.form
              obtain ⟨ab1a, ab1c, rfl⟩ := s3.form
              have HOa1 := hid0 s4
              have G8 := hid0 (And.intro (G7.out.1.trans g) (And.intro (G7.out.2.1.ext g) (And.intro (G7.out.2.2.1.ext g) (And.intro (G7.out.2.2.2.ext g) (And.intro (s1) (And.intro (s2) (s3)))))))
              clear g s1 s2 s3 s4 G7
              go_wp2_with fail
              refine (sum_any _).mono ?_
              rintro e W9 ⟨rfl, g⟩
              have G9 := hid0 (And.intro (G8.out.1.trans g) (And.intro (G8.out.2.1.ext g) (And.intro (G8.out.2.2.1.ext g) (And.intro (G8.out.2.2.2.1.ext g) (And.intro (G8.out.2.2.2.2.1.ext g) (And.intro (G8.out.2.2.2.2.2.1.ext g) (G8.out.2.2.2.2.2.2.ext g)))))))
              clear g G8
              go_wp2_with fail
              refine (IUnion_any _ _ _ (q) (r) mS G9.out.2.2.1 G9.out.2.2.2.1 (by omega) (by omega) (HWq.out.ok HKq.out) (HWr.out.ok HKr.out)).mono ?_
              rintro e W10 ⟨b1v, ba1v, bb1v, rfl, s1, s2, s3, s4, g⟩
              obtain ⟨b1a, b1c, rfl⟩ := s1.form
              obtain ⟨ba1a, ba1c, rfl⟩ := s2.form
              obtain ⟨bb1a, bb1c, rfl⟩ := s3.form
              have HOb1 := hid0 s4
              have G10 := hid0 (And.intro (G9.out.1.trans g) (And.intro (G9.out.2.1.ext g) (And.intro (G9.out.2.2.1.ext g) (And.intro (G9.out.2.2.2.1.ext g) (And.intro (G9.out.2.2.2.2.1.ext g) (And.intro (G9.out.2.2.2.2.2.1.ext g) (And.intro (G9.out.2.2.2.2.2.2.ext g) (And.intro (s1) (And.intro (s2) (s3))))))))))
              clear g s1 s2 s3 s4 G9
              have HT11 := hid0 (treeP_up HOa1.out.srt)
              have HT12 := hid0 (treeP_up HOb1.out.srt)
              go_wp2_with fail
              refine (sum_any _).mono ?_
              rintro e W11 ⟨rfl, g⟩
              have G11 := hid0 (And.intro (G10.out.1.trans g) (And.intro (G10.out.2.1.ext g) (And.intro (G10.out.2.2.1.ext g) (And.intro (G10.out.2.2.2.1.ext g) (And.intro (G10.out.2.2.2.2.1.ext g) (And.intro (G10.out.2.2.2.2.2.1.ext g) (And.intro (G10.out.2.2.2.2.2.2.1.ext g) (And.intro (G10.out.2.2.2.2.2.2.2.1.ext g) (And.intro (G10.out.2.2.2.2.2.2.2.2.1.ext g) (G10.out.2.2.2.2.2.2.2.2.2.ext g))))))))))
              clear g G10
              go_wp2_with fail
              refine (IUnion_any _ _ _ (unionI (opOf mS) (treeP p) (treeP q)) (r) mS G11.out.2.2.2.2.1 G11.out.2.2.2.1 (by have := Ok.length HOa1.out; omega) (by omega) (HOa1.out.rng) (HWr.out.ok HKr.out)).mono ?_
              rintro e W12 ⟨x1v, xa1v, xb1v, rfl, s1, s2, s3, s4, g⟩
              obtain ⟨x1a, x1c, rfl⟩ := s1.form
              obtain ⟨xa1a, xa1c, rfl⟩ := s2.form
              obtain ⟨xb1a, xb1c, rfl⟩ := s3.form
              have HOx1 := hid0 s4
              have G12 := hid0 (And.intro (G11.out.1.trans g) (And.intro (G11.out.2.1.ext g) (And.intro (G11.out.2.2.1.ext g) (And.intro (G11.out.2.2.2.1.ext g) (And.intro (G11.out.2.2.2.2.1.ext g) (And.intro (G11.out.2.2.2.2.2.1.ext g) (And.intro (G11.out.2.2.2.2.2.2.1.ext g) (And.intro (G11.out.2.2.2.2.2.2.2.1.ext g) (And.intro (G11.out.2.2.2.2.2.2.2.2.1.ext g) (And.intro (G11.out.2.2.2.2.2.2.2.2.2.ext g) (And.intro (s1) (And.intro (s2) (s3)))))))))))))
              clear g s1 s2 s3 s4 G11
              go_wp2_with fail
              refine (sum_any _).mono ?_
              rintro e W13 ⟨rfl, g⟩
              have G13 := hid0 (And.intro (G12.out.1.trans g) (And.intro (G12.out.2.1.ext g) (And.intro (G12.out.2.2.1.ext g) (And.intro (G12.out.2.2.2.1.ext g) (And.intro (G12.out.2.2.2.2.1.ext g) (And.intro (G12.out.2.2.2.2.2.1.ext g) (And.intro (G12.out.2.2.2.2.2.2.1.ext g) (And.intro (G12.out.2.2.2.2.2.2.2.1.ext g) (And.intro (G12.out.2.2.2.2.2.2.2.2.1.ext g) (And.intro (G12.out.2.2.2.2.2.2.2.2.2.1.ext g) (And.intro (G12.out.2.2.2.2.2.2.2.2.2.2.1.ext g) (And.intro (G12.out.2.2.2.2.2.2.2.2.2.2.2.1.ext g) (G12.out.2.2.2.2.2.2.2.2.2.2.2.2.ext g)))))))))))))
              clear g G12
              go_wp2_with fail
              refine (IUnion_any _ _ _ (p) (unionI (opOf mS) (treeP q) (treeP r)) mS G13.out.2.1 G13.out.2.2.2.2.2.2.2.1 (by omega) (by have := Ok.length HOb1.out; omega) (HWp.out.ok HKp.out) (HOb1.out.rng)).mono ?_
              rintro e W14 ⟨y1v, ya1v, yb1v, rfl, s1, s2, s3, s4, g⟩
              obtain ⟨y1a, y1c, rfl⟩ := s1.form
              obtain ⟨ya1a, ya1c, rfl⟩ := s2.form
              obtain ⟨yb1a, yb1c, rfl⟩ := s3.form
              have HOy1 := hid0 s4
              have G14 := hid0 (And.intro (G13.out.1.trans g) (And.intro (G13.out.2.1.ext g) (And.intro (G13.out.2.2.1.ext g) (And.intro (G13.out.2.2.2.1.ext g) (And.intro (G13.out.2.2.2.2.1.ext g) (And.intro (G13.out.2.2.2.2.2.1.ext g) (And.intro (G13.out.2.2.2.2.2.2.1.ext g) (And.intro (G13.out.2.2.2.2.2.2.2.1.ext g) (And.intro (G13.out.2.2.2.2.2.2.2.2.1.ext g) (And.intro (G13.out.2.2.2.2.2.2.2.2.2.1.ext g) (And.intro (G13.out.2.2.2.2.2.2.2.2.2.2.1.ext g) (And.intro (G13.out.2.2.2.2.2.2.2.2.2.2.2.1.ext g) (And.intro (G13.out.2.2.2.2.2.2.2.2.2.2.2.2.ext g) (And.intro (s1) (And.intro (s2) (s3))))))))))))))))
              clear g s1 s2 s3 s4 G13
              go_wp2_with fail
              refine (Same_any _ _ _ (unionI (opOf mS) (treeP (unionI (opOf mS) (treeP p) (treeP q))) (treeP r)) (unionI (opOf mS) (treeP p) (treeP (unionI (opOf mS) (treeP q) (treeP r)))) G14.out.2.2.2.2.2.2.2.2.2.2.1 G14.out.2.2.2.2.2.2.2.2.2.2.2.2.2.1 (by have := Ok.length HOx1.out; omega)).mono ?_
              rintro e W15 ⟨rfl, g⟩
              have G15 := hid0 (And.intro (G14.out.1.trans g) (And.intro (G14.out.2.1.ext g) (And.intro (G14.out.2.2.1.ext g) (And.intro (G14.out.2.2.2.1.ext g) (And.intro (G14.out.2.2.2.2.1.ext g) (And.intro (G14.out.2.2.2.2.2.1.ext g) (And.intro (G14.out.2.2.2.2.2.2.1.ext g) (And.intro (G14.out.2.2.2.2.2.2.2.1.ext g) (And.intro (G14.out.2.2.2.2.2.2.2.2.1.ext g) (And.intro (G14.out.2.2.2.2.2.2.2.2.2.1.ext g) (And.intro (G14.out.2.2.2.2.2.2.2.2.2.2.1.ext g) (And.intro (G14.out.2.2.2.2.2.2.2.2.2.2.2.1.ext g) (And.intro (G14.out.2.2.2.2.2.2.2.2.2.2.2.2.1.ext g) (And.intro (G14.out.2.2.2.2.2.2.2.2.2.2.2.2.2.1.ext g) (And.intro (G14.out.2.2.2.2.2.2.2.2.2.2.2.2.2.2.1.ext g) (G14.out.2.2.2.2.2.2.2.2.2.2.2.2.2.2.2.ext g))))))))))))))))
              clear g G14
              rw [decide_eq_true (by rw [HT11.out, HT12.out]; exact assoc_u (up_treeP p) (up_treeP q) (up_treeP r) (b := 1099511627776) (by omega) (by omega) HPO.out.1 HPO.out.2.1 HPO.out.2.2)]
              have hge : (treeP p).length ≤ (unionI (opOf mS) (treeP (unionI (opOf mS) (treeP p) (treeP q))) (treeP r)).length := by rw [HT11.out]; exact assoc_len (up_treeP p) (up_treeP q) (up_treeP r) (b := 1099511627776) (by omega) (by omega) HPO.out.1 HPO.out.2.1 HPO.out.2.2
              have HGE := hid0 hge
              clear hge
              go_wp2_with fail
              refine (Tree_any _ _ p G15.out.2.1 (by omega) HWp.out).mono ?_
              rintro e W16 ⟨tv, rfl, o, g⟩
              obtain ⟨ta, tc, rfl⟩ := (OwnP.sl o).form
              have G16 := hid0 (And.intro (G15.out.1.trans g) (And.intro (G15.out.2.1.ext g) (And.intro (G15.out.2.2.1.ext g) (And.intro (G15.out.2.2.2.1.ext g) (And.intro (G15.out.2.2.2.2.1.ext g) (And.intro (G15.out.2.2.2.2.2.1.ext g) (And.intro (G15.out.2.2.2.2.2.2.1.ext g) (And.intro (G15.out.2.2.2.2.2.2.2.1.ext g) (And.intro (G15.out.2.2.2.2.2.2.2.2.1.ext g) (And.intro (G15.out.2.2.2.2.2.2.2.2.2.1.ext g) (And.intro (G15.out.2.2.2.2.2.2.2.2.2.2.1.ext g) (And.intro (G15.out.2.2.2.2.2.2.2.2.2.2.2.1.ext g) (And.intro (G15.out.2.2.2.2.2.2.2.2.2.2.2.2.1.ext g) (And.intro (G15.out.2.2.2.2.2.2.2.2.2.2.2.2.2.1.ext g) (And.intro (G15.out.2.2.2.2.2.2.2.2.2.2.2.2.2.2.1.ext g) (And.intro (G15.out.2.2.2.2.2.2.2.2.2.2.2.2.2.2.2.ext g) (OwnP.sl o)))))))))))))))))
              clear g o G15
              have hge := HGE.out
              go_wp2_with fail
              refine (sum_any _).mono ?_
              rintro e W17 ⟨rfl, g⟩
              have G17 := hid0 (And.intro (G16.out.1.trans g) (And.intro (G16.out.2.1.ext g) (And.intro (G16.out.2.2.1.ext g) (And.intro (G16.out.2.2.2.1.ext g) (And.intro (G16.out.2.2.2.2.1.ext g) (And.intro (G16.out.2.2.2.2.2.1.ext g) (And.intro (G16.out.2.2.2.2.2.2.1.ext g) (And.intro (G16.out.2.2.2.2.2.2.2.1.ext g) (And.intro (G16.out.2.2.2.2.2.2.2.2.1.ext g) (And.intro (G16.out.2.2.2.2.2.2.2.2.2.1.ext g) (And.intro (G16.out.2.2.2.2.2.2.2.2.2.2.1.ext g) (And.intro (G16.out.2.2.2.2.2.2.2.2.2.2.2.1.ext g) (And.intro (G16.out.2.2.2.2.2.2.2.2.2.2.2.2.1.ext g) (And.intro (G16.out.2.2.2.2.2.2.2.2.2.2.2.2.2.1.ext g) (And.intro (G16.out.2.2.2.2.2.2.2.2.2.2.2.2.2.2.1.ext g) (And.intro (G16.out.2.2.2.2.2.2.2.2.2.2.2.2.2.2.2.1.ext g) (G16.out.2.2.2.2.2.2.2.2.2.2.2.2.2.2.2.2.ext g)))))))))))))))))
              clear g G16
              go_wp2_with fail
              refine (IIntersection_any _ _ _ (p) (q) mS G17.out.2.1 G17.out.2.2.1 (by omega) (by omega) (HWp.out.ok HKp.out) (HWq.out.ok HKq.out)).mono ?_
              rintro e W18 ⟨a2v, aa2v, ab2v, rfl, s1, s2, s3, s4, g⟩
              obtain ⟨a2a, a2c, rfl⟩ := s1.form
              obtain ⟨aa2a, aa2c, rfl⟩ := s2.form
              obtain ⟨ab2a, ab2c, rfl⟩ := s3.form
              have HOa2 := hid0 s4
              have G18 := hid0 (And.intro (G17.out.1.trans g) (And.intro (G17.out.2.1.ext g) (And.intro (G17.out.2.2.1.ext g) (And.intro (G17.out.2.2.2.1.ext g) (And.intro (G17.out.2.2.2.2.1.ext g) (And.intro (G17.out.2.2.2.2.2.1.ext g) (And.intro (G17.out.2.2.2.2.2.2.1.ext g) (And.intro (G17.out.2.2.2.2.2.2.2.1.ext g) (And.intro (G17.out.2.2.2.2.2.2.2.2.1.ext g) (And.intro (G17.out.2.2.2.2.2.2.2.2.2.1.ext g) (And.intro (G17.out.2.2.2.2.2.2.2.2.2.2.1.ext g) (And.intro (G17.out.2.2.2.2.2.2.2.2.2.2.2.1.ext g) (And.intro (G17.out.2.2.2.2.2.2.2.2.2.2.2.2.1.ext g) (And.intro (G17.out.2.2.2.2.2.2.2.2.2.2.2.2.2.1.ext g) (And.intro (G17.out.2.2.2.2.2.2.2.2.2.2.2.2.2.2.1.ext g) (And.intro (G17.out.2.2.2.2.2.2.2.2.2.2.2.2.2.2.2.1.ext g) (And.intro (G17.out.2.2.2.2.2.2.2.2.2.2.2.2.2.2.2.2.ext g) (And.intro (s1) (And.intro (s2) (s3))))))))))))))))))))
              clear g s1 s2 s3 s4 G17
              go_wp2_with fail
              refine (sum_any _).mono ?_
              rintro e W19 ⟨rfl, g⟩
              have G19 := hid0 (And.intro (G18.out.1.trans g) (And.intro (G18.out.2.1.ext g) (And.intro (G18.out.2.2.1.ext g) (And.intro (G18.out.2.2.2.1.ext g) (And.intro (G18.out.2.2.2.2.1.ext g) (And.intro (G18.out.2.2.2.2.2.1.ext g) (And.intro (G18.out.2.2.2.2.2.2.1.ext g) (And.intro (G18.out.2.2.2.2.2.2.2.1.ext g) (And.intro (G18.out.2.2.2.2.2.2.2.2.1.ext g) (And.intro (G18.out.2.2.2.2.2.2.2.2.2.1.ext g) (And.intro (G18.out.2.2.2.2.2.2.2.2.2.2.1.ext g) (And.intro (G18.out.2.2.2.2.2.2.2.2.2.2.2.1.ext g) (And.intro (G18.out.2.2.2.2.2.2.2.2.2.2.2.2.1.ext g) (And.intro (G18.out.2.2.2.2.2.2.2.2.2.2.2.2.2.1.ext g) (And.intro (G18.out.2.2.2.2.2.2.2.2.2.2.2.2.2.2.1.ext g) (And.intro (G18.out.2.2.2.2.2.2.2.2.2.2.2.2.2.2.2.1.ext g) (And.intro (G18.out.2.2.2.2.2.2.2.2.2.2.2.2.2.2.2.2.1.ext g) (And.intro (G18.out.2.2.2.2.2.2.2.2.2.2.2.2.2.2.2.2.2.1.ext g) (And.intro (G18.out.2.2.2.2.2.2.2.2.2.2.2.2.2.2.2.2.2.2.1.ext g) (G18.out.2.2.2.2.2.2.2.2.2.2.2.2.2.2.2.2.2.2.2.ext g))))))))))))))))))))
              clear g G18
              go_wp2_with fail
              refine (IIntersection_any _ _ _ (q) (r) mS G19.out.2.2.1 G19.out.2.2.2.1 (by omega) (by omega) (HWq.out.ok HKq.out) (HWr.out.ok HKr.out)).mono ?_
              rintro e W20 ⟨b2v, ba2v, bb2v, rfl, s1, s2, s3, s4, g⟩
              obtain ⟨b2a, b2c, rfl⟩ := s1.form
              obtain ⟨ba2a, ba2c, rfl⟩ := s2.form
              obtain ⟨bb2a, bb2c, rfl⟩ := s3.form
              have HOb2 := hid0 s4
              have G20 := hid0 (And.intro (G19.out.1.trans g) (And.intro (G19.out.2.1.ext g) (And.intro (G19.out.2.2.1.ext g) (And.intro (G19.out.2.2.2.1.ext g) (And.intro (G19.out.2.2.2.2.1.ext g) (And.intro (G19.out.2.2.2.2.2.1.ext g) (And.intro (G19.out.2.2.2.2.2.2.1.ext g) (And.intro (G19.out.2.2.2.2.2.2.2.1.ext g) (And.intro (G19.out.2.2.2.2.2.2.2.2.1.ext g) (And.intro (G19.out.2.2.2.2.2.2.2.2.2.1.ext g) (And.intro (G19.out.2.2.2.2.2.2.2.2.2.2.1.ext g) (And.intro (G19.out.2.2.2.2.2.2.2.2.2.2.2.1.ext g) (And.intro (G19.out.2.2.2.2.2.2.2.2.2.2.2.2.1.ext g) (And.intro (G19.out.2.2.2.2.2.2.2.2.2.2.2.2.2.1.ext g) (And.intro (G19.out.2.2.2.2.2.2.2.2.2.2.2.2.2.2.1.ext g) (And.intro (G19.out.2.2.2.2.2.2.2.2.2.2.2.2.2.2.2.1.ext g) (And.intro (G19.out.2.2.2.2.2.2.2.2.2.2.2.2.2.2.2.2.1.ext g) (And.intro (G19.out.2.2.2.2.2.2.2.2.2.2.2.2.2.2.2.2.2.1.ext g) (And.intro (G19.out.2.2.2.2.2.2.2.2.2.2.2.2.2.2.2.2.2.2.1.ext g) (And.intro (G19.out.2.2.2.2.2.2.2.2.2.2.2.2.2.2.2.2.2.2.2.ext g) (And.intro (s1) (And.intro (s2) (s3)))))))))))))))))))))))
              clear g s1 s2 s3 s4 G19
              have HT21 := hid0 (treeP_up HOa2.out.srt)
              have HT22 := hid0 (treeP_up HOb2.out.srt)
              go_wp2_with fail
              refine (sum_any _).mono ?_
              rintro e W21 ⟨rfl, g⟩
              have G21 := hid0 (And.intro (G20.out.1.trans g) (And.intro (G20.out.2.1.ext g) (And.intro (G20.out.2.2.1.ext g) (And.intro (G20.out.2.2.2.1.ext g) (And.intro (G20.out.2.2.2.2.1.ext g) (And.intro (G20.out.2.2.2.2.2.1.ext g) (And.intro (G20.out.2.2.2.2.2.2.1.ext g) (And.intro (G20.out.2.2.2.2.2.2.2.1.ext g) (And.intro (G20.out.2.2.2.2.2.2.2.2.1.ext g) (And.intro (G20.out.2.2.2.2.2.2.2.2.2.1.ext g) (And.intro (G20.out.2.2.2.2.2.2.2.2.2.2.1.ext g) (And.intro (G20.out.2.2.2.2.2.2.2.2.2.2.2.1.ext g) (And.intro (G20.out.2.2.2.2.2.2.2.2.2.2.2.2.1.ext g) (And.intro (G20.out.2.2.2.2.2.2.2.2.2.2.2.2.2.1.ext g) (And.intro (G20.out.2.2.2.2.2.2.2.2.2.2.2.2.2.2.1.ext g) (And.intro (G20.out.2.2.2.2.2.2.2.2.2.2.2.2.2.2.2.1.ext g) (And.intro (G20.out.2.2.2.2.2.2.2.2.2.2.2.2.2.2.2.2.1.ext g) (And.intro (G20.out.2.2.2.2.2.2.2.2.2.2.2.2.2.2.2.2.2.1.ext g) (And.intro (G20.out.2.2.2.2.2.2.2.2.2.2.2.2.2.2.2.2.2.2.1.ext g) (And.intro (G20.out.2.2.2.2.2.2.2.2.2.2.2.2.2.2.2.2.2.2.2.1.ext g) (And.intro (G20.out.2.2.2.2.2.2.2.2.2.2.2.2.2.2.2.2.2.2.2.2.1.ext g) (And.intro (G20.out.2.2.2.2.2.2.2.2.2.2.2.2.2.2.2.2.2.2.2.2.2.1.ext g) (G20.out.2.2.2.2.2.2.2.2.2.2.2.2.2.2.2.2.2.2.2.2.2.2.ext g)))))))))))))))))))))))
              clear g G20
              go_wp2_with fail
              refine (IIntersection_any _ _ _ (interI (opOf mS) (treeP p) (treeP q)) (r) mS G21.out.2.2.2.2.2.2.2.2.2.2.2.2.2.2.2.2.2.1 G21.out.2.2.2.1 (by have := Ok.length HOa2.out; omega) (by omega) (HOa2.out.rng) (HWr.out.ok HKr.out)).mono ?_
              rintro e W22 ⟨x2v, xa2v, xb2v, rfl, s1, s2, s3, s4, g⟩
              obtain ⟨x2a, x2c, rfl⟩ := s1.form
              obtain ⟨xa2a, xa2c, rfl⟩ := s2.form
              obtain ⟨xb2a, xb2c, rfl⟩ := s3.form
              have HOx2 := hid0 s4
              have G22 := hid0 (And.intro (G21.out.1.trans g) (And.intro (G21.out.2.1.ext g) (And.intro (G21.out.2.2.1.ext g) (And.intro (G21.out.2.2.2.1.ext g) (And.intro (G21.out.2.2.2.2.1.ext g) (And.intro (G21.out.2.2.2.2.2.1.ext g) (And.intro (G21.out.2.2.2.2.2.2.1.ext g) (And.intro (G21.out.2.2.2.2.2.2.2.1.ext g) (And.intro (G21.out.2.2.2.2.2.2.2.2.1.ext g) (And.intro (G21.out.2.2.2.2.2.2.2.2.2.1.ext g) (And.intro (G21.out.2.2.2.2.2.2.2.2.2.2.1.ext g) (And.intro (G21.out.2.2.2.2.2.2.2.2.2.2.2.1.ext g) (And.intro (G21.out.2.2.2.2.2.2.2.2.2.2.2.2.1.ext g) (And.intro (G21.out.2.2.2.2.2.2.2.2.2.2.2.2.2.1.ext g) (And.intro (G21.out.2.2.2.2.2.2.2.2.2.2.2.2.2.2.1.ext g) (And.intro (G21.out.2.2.2.2.2.2.2.2.2.2.2.2.2.2.2.1.ext g) (And.intro (G21.out.2.2.2.2.2.2.2.2.2.2.2.2.2.2.2.2.1.ext g) (And.intro (G21.out.2.2.2.2.2.2.2.2.2.2.2.2.2.2.2.2.2.1.ext g) (And.intro (G21.out.2.2.2.2.2.2.2.2.2.2.2.2.2.2.2.2.2.2.1.ext g) (And.intro (G21.out.2.2.2.2.2.2.2.2.2.2.2.2.2.2.2.2.2.2.2.1.ext g) (And.intro (G21.out.2.2.2.2.2.2.2.2.2.2.2.2.2.2.2.2.2.2.2.2.1.ext g) (And.intro (G21.out.2.2.2.2.2.2.2.2.2.2.2.2.2.2.2.2.2.2.2.2.2.1.ext g) (And.intro (G21.out.2.2.2.2.2.2.2.2.2.2.2.2.2.2.2.2.2.2.2.2.2.2.ext g) (And.intro (s1) (And.intro (s2) (s3))))))))))))))))))))))))))
              clear g s1 s2 s3 s4 G21
              go_wp2_with fail
              refine (sum_any _).mono ?_
              rintro e W23 ⟨rfl, g⟩
              have G23 := hid0 (And.intro (G22.out.1.trans g) (And.intro (G22.out.2.1.ext g) (And.intro (G22.out.2.2.1.ext g) (And.intro (G22.out.2.2.2.1.ext g) (And.intro (G22.out.2.2.2.2.1.ext g) (And.intro (G22.out.2.2.2.2.2.1.ext g) (And.intro (G22.out.2.2.2.2.2.2.1.ext g) (And.intro (G22.out.2.2.2.2.2.2.2.1.ext g) (And.intro (G22.out.2.2.2.2.2.2.2.2.1.ext g) (And.intro (G22.out.2.2.2.2.2.2.2.2.2.1.ext g) (And.intro (G22.out.2.2.2.2.2.2.2.2.2.2.1.ext g) (And.intro (G22.out.2.2.2.2.2.2.2.2.2.2.2.1.ext g) (And.intro (G22.out.2.2.2.2.2.2.2.2.2.2.2.2.1.ext g) (And.intro (G22.out.2.2.2.2.2.2.2.2.2.2.2.2.2.1.ext g) (And.intro (G22.out.2.2.2.2.2.2.2.2.2.2.2.2.2.2.1.ext g) (And.intro (G22.out.2.2.2.2.2.2.2.2.2.2.2.2.2.2.2.1.ext g) (And.intro (G22.out.2.2.2.2.2.2.2.2.2.2.2.2.2.2.2.2.1.ext g) (And.intro (G22.out.2.2.2.2.2.2.2.2.2.2.2.2.2.2.2.2.2.1.ext g) (And.intro (G22.out.2.2.2.2.2.2.2.2.2.2.2.2.2.2.2.2.2.2.1.ext g) (And.intro (G22.out.2.2.2.2.2.2.2.2.2.2.2.2.2.2.2.2.2.2.2.1.ext g) (And.intro (G22.out.2.2.2.2.2.2.2.2.2.2.2.2.2.2.2.2.2.2.2.2.1.ext g) (And.intro (G22.out.2.2.2.2.2.2.2.2.2.2.2.2.2.2.2.2.2.2.2.2.2.1.ext g) (And.intro (G22.out.2.2.2.2.2.2.2.2.2.2.2.2.2.2.2.2.2.2.2.2.2.2.1.ext g) (And.intro (G22.out.2.2.2.2.2.2.2.2.2.2.2.2.2.2.2.2.2.2.2.2.2.2.2.1.ext g) (And.intro (G22.out.2.2.2.2.2.2.2.2.2.2.2.2.2.2.2.2.2.2.2.2.2.2.2.2.1.ext g) (G22.out.2.2.2.2.2.2.2.2.2.2.2.2.2.2.2.2.2.2.2.2.2.2.2.2.2.ext g))))))))))))))))))))))))))
              clear g G22
              go_wp2_with fail
              refine (IIntersection_any _ _ _ (p) (interI (opOf mS) (treeP q) (treeP r)) mS G23.out.2.1 G23.out.2.2.2.2.2.2.2.2.2.2.2.2.2.2.2.2.2.2.2.2.1 (by omega) (by have := Ok.length HOb2.out; omega) (HWp.out.ok HKp.out) (HOb2.out.rng)).mono ?_
              rintro e W24 ⟨y2v, ya2v, yb2v, rfl, s1, s2, s3, s4, g⟩
              obtain ⟨y2a, y2c, rfl⟩ := s1.form
              obtain ⟨ya2a, ya2c, rfl⟩ := s2.form
              obtain ⟨yb2a, yb2c, rfl⟩ := s3.form
              have HOy2 := hid0 s4
              have G24 := hid0 (And.intro (G23.out.1.trans g) (And.intro (G23.out.2.1.ext g) (And.intro (G23.out.2.2.1.ext g) (And.intro (G23.out.2.2.2.1.ext g) (And.intro (G23.out.2.2.2.2.1.ext g) (And.intro (G23.out.2.2.2.2.2.1.ext g) (And.intro (G23.out.2.2.2.2.2.2.1.ext g) (And.intro (G23.out.2.2.2.2.2.2.2.1.ext g) (And.intro (G23.out.2.2.2.2.2.2.2.2.1.ext g) (And.intro (G23.out.2.2.2.2.2.2.2.2.2.1.ext g) (And.intro (G23.out.2.2.2.2.2.2.2.2.2.2.1.ext g) (And.intro (G23.out.2.2.2.2.2.2.2.2.2.2.2.1.ext g) (And.intro (G23.out.2.2.2.2.2.2.2.2.2.2.2.2.1.ext g) (And.intro (G23.out.2.2.2.2.2.2.2.2.2.2.2.2.2.1.ext g) (And.intro (G23.out.2.2.2.2.2.2.2.2.2.2.2.2.2.2.1.ext g) (And.intro (G23.out.2.2.2.2.2.2.2.2.2.2.2.2.2.2.2.1.ext g) (And.intro (G23.out.2.2.2.2.2.2.2.2.2.2.2.2.2.2.2.2.1.ext g) (And.intro (G23.out.2.2.2.2.2.2.2.2.2.2.2.2.2.2.2.2.2.1.ext g) (And.intro (G23.out.2.2.2.2.2.2.2.2.2.2.2.2.2.2.2.2.2.2.1.ext g) (And.intro (G23.out.2.2.2.2.2.2.2.2.2.2.2.2.2.2.2.2.2.2.2.1.ext g) (And.intro (G23.out.2.2.2.2.2.2.2.2.2.2.2.2.2.2.2.2.2.2.2.2.1.ext g) (And.intro (G23.out.2.2.2.2.2.2.2.2.2.2.2.2.2.2.2.2.2.2.2.2.2.1.ext g) (And.intro (G23.out.2.2.2.2.2.2.2.2.2.2.2.2.2.2.2.2.2.2.2.2.2.2.1.ext g) (And.intro (G23.out.2.2.2.2.2.2.2.2.2.2.2.2.2.2.2.2.2.2.2.2.2.2.2.1.ext g) (And.intro (G23.out.2.2.2.2.2.2.2.2.2.2.2.2.2.2.2.2.2.2.2.2.2.2.2.2.1.ext g) (And.intro (G23.out.2.2.2.2.2.2.2.2.2.2.2.2.2.2.2.2.2.2.2.2.2.2.2.2.2.ext g) (And.intro (s1) (And.intro (s2) (s3)))))))))))))))))))))))))))))
              clear g s1 s2 s3 s4 G23
              go_wp2_with fail
              refine (Same_any _ _ _ (interI (opOf mS) (treeP (interI (opOf mS) (treeP p) (treeP q))) (treeP r)) (interI (opOf mS) (treeP p) (treeP (interI (opOf mS) (treeP q) (treeP r)))) G24.out.2.2.2.2.2.2.2.2.2.2.2.2.2.2.2.2.2.2.2.2.2.2.2.1 G24.out.2.2.2.2.2.2.2.2.2.2.2.2.2.2.2.2.2.2.2.2.2.2.2.2.2.2.1 (by have := Ok.length HOx2.out; omega)).mono ?_
              rintro e W25 ⟨rfl, g⟩
              have G25 := hid0 (And.intro (G24.out.1.trans g) (And.intro (G24.out.2.1.ext g) (And.intro (G24.out.2.2.1.ext g) (And.intro (G24.out.2.2.2.1.ext g) (And.intro (G24.out.2.2.2.2.1.ext g) (And.intro (G24.out.2.2.2.2.2.1.ext g) (And.intro (G24.out.2.2.2.2.2.2.1.ext g) (And.intro (G24.out.2.2.2.2.2.2.2.1.ext g) (And.intro (G24.out.2.2.2.2.2.2.2.2.1.ext g) (And.intro (G24.out.2.2.2.2.2.2.2.2.2.1.ext g) (And.intro (G24.out.2.2.2.2.2.2.2.2.2.2.1.ext g) (And.intro (G24.out.2.2.2.2.2.2.2.2.2.2.2.1.ext g) (And.intro (G24.out.2.2.2.2.2.2.2.2.2.2.2.2.1.ext g) (And.intro (G24.out.2.2.2.2.2.2.2.2.2.2.2.2.2.1.ext g) (And.intro (G24.out.2.2.2.2.2.2.2.2.2.2.2.2.2.2.1.ext g) (And.intro (G24.out.2.2.2.2.2.2.2.2.2.2.2.2.2.2.2.1.ext g) (And.intro (G24.out.2.2.2.2.2.2.2.2.2.2.2.2.2.2.2.2.1.ext g) (And.intro (G24.out.2.2.2.2.2.2.2.2.2.2.2.2.2.2.2.2.2.1.ext g) (And.intro (G24.out.2.2.2.2.2.2.2.2.2.2.2.2.2.2.2.2.2.2.1.ext g) (And.intro (G24.out.2.2.2.2.2.2.2.2.2.2.2.2.2.2.2.2.2.2.2.1.ext g) (And.intro (G24.out.2.2.2.2.2.2.2.2.2.2.2.2.2.2.2.2.2.2.2.2.1.ext g) (And.intro (G24.out.2.2.2.2.2.2.2.2.2.2.2.2.2.2.2.2.2.2.2.2.2.1.ext g) (And.intro (G24.out.2.2.2.2.2.2.2.2.2.2.2.2.2.2.2.2.2.2.2.2.2.2.1.ext g) (And.intro (G24.out.2.2.2.2.2.2.2.2.2.2.2.2.2.2.2.2.2.2.2.2.2.2.2.1.ext g) (And.intro (G24.out.2.2.2.2.2.2.2.2.2.2.2.2.2.2.2.2.2.2.2.2.2.2.2.2.1.ext g) (And.intro (G24.out.2.2.2.2.2.2.2.2.2.2.2.2.2.2.2.2.2.2.2.2.2.2.2.2.2.1.ext g) (And.intro (G24.out.2.2.2.2.2.2.2.2.2.2.2.2.2.2.2.2.2.2.2.2.2.2.2.2.2.2.1.ext g) (And.intro (G24.out.2.2.2.2.2.2.2.2.2.2.2.2.2.2.2.2.2.2.2.2.2.2.2.2.2.2.2.1.ext g) (G24.out.2.2.2.2.2.2.2.2.2.2.2.2.2.2.2.2.2.2.2.2.2.2.2.2.2.2.2.2.ext g)))))))))))))))))))))))))))))
              clear g G24
              rw [decide_eq_true (by rw [HT21.out, HT22.out]; exact assoc_i (up_treeP p) (up_treeP q) (up_treeP r) (b := 1099511627776) (by omega) (by omega) HPO.out.1 HPO.out.2.1 HPO.out.2.2)]
              go_wp2
              go_ret
              exact ⟨rfl, G25.out.1⟩

end Go.Proofs.Ytdmfnlhbddejiaa
