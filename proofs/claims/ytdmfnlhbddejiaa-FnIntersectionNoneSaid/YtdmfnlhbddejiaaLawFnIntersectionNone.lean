/- The walk of FnIntersectionNone. -/
import Derived.Test.YtdmfnlhbddejiaaImplU
namespace Go.Proofs.Ytdmfnlhbddejiaa
open Go.RowKit

set_option maxRecDepth 100000 in
set_option maxHeartbeats 1000000 in
theorem FnIntersectionNone_walk (w : World) (vp : Value) (p : Ps) (hp : SlP w vp p) (lp : p.length ≤ 8796093021952) (wp : KeysW p) (dp : DataR p) (vq : Value) (q : Ps) (hq : SlP w vq q) (lq : q.length ≤ 8796093021952) (wq : KeysW q) (dq : DataR q) :
    Calls Try.prog 6 #[vp, vq] w fun e w' => e = .returned (.bool true) ∧ Kept Non w w' := by
  have HWp := hid0 wp
  have HDp := hid0 dp
  have HWq := hid0 wq
  have HDq := hid0 dq
  have G0 := hid0 (And.intro (Kept.refl Non w) (And.intro (hp) (hq)))
  have HLp := hid0 (treeP_len0 wp)
  have HLq := hid0 (treeP_len0 wq)
  clear hp wp dp hq wq dq
  cases hkp : keyedB p with
  | false =>
    have HKp := hid0 hkp
    clear hkp
    go_enter Try.func6, Try.ntmps6
    go_wp2_with fail
    refine (keyed_any _ _ p G0.out.2.1 (by omega)).mono ?_
    rintro e W1 ⟨rfl, g⟩
    have G1 := hid0 (And.intro (G0.out.1.trans g) (And.intro (G0.out.2.1.ext g) (G0.out.2.2.ext g)))
    clear g G0
    rw [HKp.out]
    go_wp2
    go_ret
    exact ⟨rfl, G1.out.1⟩
  | true =>
    have HKp := hid0 hkp
    clear hkp
    cases hkq : keyedB q with
    | false =>
      have HKq := hid0 hkq
      clear hkq
      go_enter Try.func6, Try.ntmps6
      go_wp2_with fail
      refine (keyed_any _ _ p G0.out.2.1 (by omega)).mono ?_
      rintro e W1 ⟨rfl, g⟩
      have G1 := hid0 (And.intro (G0.out.1.trans g) (And.intro (G0.out.2.1.ext g) (G0.out.2.2.ext g)))
      clear g G0
      rw [HKp.out]
      go_wp2_with fail
      refine (keyed_any _ _ q G1.out.2.2 (by omega)).mono ?_
      rintro e W2 ⟨rfl, g⟩
      have G2 := hid0 (And.intro (G1.out.1.trans g) (And.intro (G1.out.2.1.ext g) (G1.out.2.2.ext g)))
      clear g G1
      rw [HKq.out]
      go_wp2
      go_ret
      exact ⟨rfl, G2.out.1⟩
    | true =>
      have HKq := hid0 hkq
      clear hkq
      have HR := hid0 (And.intro (Rg.tree HDp.out) (Rg.tree HDq.out))
      by_cases hle : (treeP p).length = (treeP q).length
      · have b1 : (((treeP p).length : Int) == ((treeP q).length : Int)) = true := by simp [hle]
        have HEQ := hid0 (iN_le (up_treeP p) (up_treeP q) (by omega) HR.out.1)
        have HEI := hid0 (inter_LR (up_treeP p) (up_treeP q))
        clear hle
        go_enter Try.func6, Try.ntmps6
        go_wp2_with fail
        refine (keyed_any _ _ p G0.out.2.1 (by omega)).mono ?_
        rintro e W1 ⟨rfl, g⟩
        have G1 := hid0 (And.intro (G0.out.1.trans g) (And.intro (G0.out.2.1.ext g) (G0.out.2.2.ext g)))
        clear g G0
        rw [HKp.out]
        go_wp2_with fail
        refine (keyed_any _ _ q G1.out.2.2 (by omega)).mono ?_
        rintro e W2 ⟨rfl, g⟩
        have G2 := hid0 (And.intro (G1.out.1.trans g) (And.intro (G1.out.2.1.ext g) (G1.out.2.2.ext g)))
        clear g G1
        rw [HKq.out]
        go_wp2_with fail
        refine (Tree_any _ _ p G2.out.2.1 (by omega) HWp.out).mono ?_
        rintro e W3 ⟨tv, rfl, o, g⟩
        obtain ⟨ta, tc, rfl⟩ := (OwnP.sl o).form
        have G3 := hid0 (And.intro (G2.out.1.trans g) (And.intro (G2.out.2.1.ext g) (And.intro (G2.out.2.2.ext g) (OwnP.sl o))))
        clear g o G2
        go_wp2_with fail
        refine (Tree_any _ _ q G3.out.2.2.1 (by omega) HWq.out).mono ?_
        rintro e W4 ⟨uv, rfl, o, g⟩
        obtain ⟨ua, uc, rfl⟩ := (OwnP.sl o).form
        have G4 := hid0 (And.intro (G3.out.1.trans g) (And.intro (G3.out.2.1.ext g) (And.intro (G3.out.2.2.1.ext g) (And.intro (G3.out.2.2.2.ext g) (OwnP.sl o)))))
        clear g o G3
        go_wp2_with fail
        refine (no_any _).mono ?_
        rintro e W5 ⟨rfl, g⟩
        have G5 := hid0 (And.intro (G4.out.1.trans g) (And.intro (G4.out.2.1.ext g) (And.intro (G4.out.2.2.1.ext g) (And.intro (G4.out.2.2.2.1.ext g) (G4.out.2.2.2.2.ext g)))))
        clear g G4
        go_wp2_with fail
        refine (IIntersection_any _ _ _ (p) (q) mN G5.out.2.1 G5.out.2.2.1 (by omega) (by omega) (HWp.out.ok HKp.out) (HWq.out.ok HKq.out)).mono ?_
        rintro e W6 ⟨xv, cv, dv, rfl, s1, s2, s3, s4, g⟩
        obtain ⟨xa, xc, rfl⟩ := s1.form
        obtain ⟨ca, cc, rfl⟩ := s2.form
        obtain ⟨da, dc, rfl⟩ := s3.form
        have HOx := hid0 s4
        have G6 := hid0 (And.intro (G5.out.1.trans g) (And.intro (G5.out.2.1.ext g) (And.intro (G5.out.2.2.1.ext g) (And.intro (G5.out.2.2.2.1.ext g) (And.intro (G5.out.2.2.2.2.ext g) (And.intro (s1) (And.intro (s2) (s3))))))))
        clear g s1 s2 s3 s4 G5
        go_wp2_with fail
        refine (left_any _).mono ?_
        rintro e W7 ⟨rfl, g⟩
        have G7 := hid0 (And.intro (G6.out.1.trans g) (And.intro (G6.out.2.1.ext g) (And.intro (G6.out.2.2.1.ext g) (And.intro (G6.out.2.2.2.1.ext g) (And.intro (G6.out.2.2.2.2.1.ext g) (And.intro (G6.out.2.2.2.2.2.1.ext g) (And.intro (G6.out.2.2.2.2.2.2.1.ext g) (G6.out.2.2.2.2.2.2.2.ext g))))))))
        clear g G6
        go_wp2_with fail
        refine (Intersection_any _ _ _ (treeP p) (treeP q) mL G7.out.2.2.2.1 G7.out.2.2.2.2.1 HLp.out HLq.out).mono ?_
        rintro e W8 ⟨fv, rfl, o, g⟩
        obtain ⟨fa, fc, rfl⟩ := (OwnP.sl o).form
        have G8 := hid0 (And.intro (G7.out.1.trans g) (And.intro (G7.out.2.1.ext g) (And.intro (G7.out.2.2.1.ext g) (And.intro (G7.out.2.2.2.1.ext g) (And.intro (G7.out.2.2.2.2.1.ext g) (And.intro (G7.out.2.2.2.2.2.1.ext g) (And.intro (G7.out.2.2.2.2.2.2.1.ext g) (And.intro (G7.out.2.2.2.2.2.2.2.ext g) (OwnP.sl o)))))))))
        clear g o G7
        go_wp2_with fail
        refine (right_any _).mono ?_
        rintro e W9 ⟨rfl, g⟩
        have G9 := hid0 (And.intro (G8.out.1.trans g) (And.intro (G8.out.2.1.ext g) (And.intro (G8.out.2.2.1.ext g) (And.intro (G8.out.2.2.2.1.ext g) (And.intro (G8.out.2.2.2.2.1.ext g) (And.intro (G8.out.2.2.2.2.2.1.ext g) (And.intro (G8.out.2.2.2.2.2.2.1.ext g) (And.intro (G8.out.2.2.2.2.2.2.2.1.ext g) (G8.out.2.2.2.2.2.2.2.2.ext g)))))))))
        clear g G8
        go_wp2_with fail
        refine (Intersection_any _ _ _ (treeP p) (treeP q) mR G9.out.2.2.2.1 G9.out.2.2.2.2.1 HLp.out HLq.out).mono ?_
        rintro e W10 ⟨sv, rfl, o, g⟩
        obtain ⟨sa, sc, rfl⟩ := (OwnP.sl o).form
        have G10 := hid0 (And.intro (G9.out.1.trans g) (And.intro (G9.out.2.1.ext g) (And.intro (G9.out.2.2.1.ext g) (And.intro (G9.out.2.2.2.1.ext g) (And.intro (G9.out.2.2.2.2.1.ext g) (And.intro (G9.out.2.2.2.2.2.1.ext g) (And.intro (G9.out.2.2.2.2.2.2.1.ext g) (And.intro (G9.out.2.2.2.2.2.2.2.1.ext g) (And.intro (G9.out.2.2.2.2.2.2.2.2.ext g) (OwnP.sl o))))))))))
        clear g o G9
        go_wp2_with fail
        refine (Same_any _ _ _ (treeP p) (treeP p) G10.out.2.2.2.2.2.2.1 G10.out.2.2.2.1 (by have := HLp.out; omega)).mono ?_
        rintro e W11 ⟨rfl, g⟩
        have G11 := hid0 (And.intro (G10.out.1.trans g) (And.intro (G10.out.2.1.ext g) (And.intro (G10.out.2.2.1.ext g) (And.intro (G10.out.2.2.2.1.ext g) (And.intro (G10.out.2.2.2.2.1.ext g) (And.intro (G10.out.2.2.2.2.2.1.ext g) (And.intro (G10.out.2.2.2.2.2.2.1.ext g) (And.intro (G10.out.2.2.2.2.2.2.2.1.ext g) (And.intro (G10.out.2.2.2.2.2.2.2.2.1.ext g) (G10.out.2.2.2.2.2.2.2.2.2.ext g))))))))))
        clear g G10
        rw [decide_eq_true (rfl)]
        go_wp2_with fail
        refine (Same_any _ _ _ (treeP q) (treeP q) G11.out.2.2.2.2.2.2.2.1 G11.out.2.2.2.2.1 (by have := HLq.out; omega)).mono ?_
        rintro e W12 ⟨rfl, g⟩
        have G12 := hid0 (And.intro (G11.out.1.trans g) (And.intro (G11.out.2.1.ext g) (And.intro (G11.out.2.2.1.ext g) (And.intro (G11.out.2.2.2.1.ext g) (And.intro (G11.out.2.2.2.2.1.ext g) (And.intro (G11.out.2.2.2.2.2.1.ext g) (And.intro (G11.out.2.2.2.2.2.2.1.ext g) (And.intro (G11.out.2.2.2.2.2.2.2.1.ext g) (And.intro (G11.out.2.2.2.2.2.2.2.2.1.ext g) (G11.out.2.2.2.2.2.2.2.2.2.ext g))))))))))
        clear g G11
        rw [decide_eq_true (rfl)]
        go_wp2_with fail
        refine (eitherOf_any _ _ _ _ (interI (opOf mN) (treeP p) (treeP q)) (interS (mixV mL) (treeP p) (treeP q)) (interS (mixV mR) (treeP p) (treeP q)) G12.out.2.2.2.2.2.1 G12.out.2.2.2.2.2.2.2.2.1 G12.out.2.2.2.2.2.2.2.2.2 (by have := Ok.length HOx.out; omega) ⟨by rw [HEQ.out], by rw [HEQ.out, HEI.out], by rw [HEQ.out]; exact fun i h _ _ => ⟨rfl, .inl rfl⟩⟩).mono ?_
        rintro e W13 ⟨rfl, g⟩
        have G13 := hid0 (And.intro (G12.out.1.trans g) (And.intro (G12.out.2.1.ext g) (And.intro (G12.out.2.2.1.ext g) (And.intro (G12.out.2.2.2.1.ext g) (And.intro (G12.out.2.2.2.2.1.ext g) (And.intro (G12.out.2.2.2.2.2.1.ext g) (And.intro (G12.out.2.2.2.2.2.2.1.ext g) (And.intro (G12.out.2.2.2.2.2.2.2.1.ext g) (And.intro (G12.out.2.2.2.2.2.2.2.2.1.ext g) (G12.out.2.2.2.2.2.2.2.2.2.ext g))))))))))
        clear g G12
        go_wp2
        go_ret
        exact ⟨rfl, G13.out.1⟩
      · have b1 : (((treeP p).length : Int) == ((treeP q).length : Int)) = false := by simp; omega
        by_cases hlt : (treeP p).length < (treeP q).length
        · have HEQ := hid0 (iN_le (up_treeP p) (up_treeP q) (by omega) HR.out.1)
          clear hle
          go_enter Try.func6, Try.ntmps6
          go_wp2_with fail
          refine (keyed_any _ _ p G0.out.2.1 (by omega)).mono ?_
          rintro e W1 ⟨rfl, g⟩
          have G1 := hid0 (And.intro (G0.out.1.trans g) (And.intro (G0.out.2.1.ext g) (G0.out.2.2.ext g)))
          clear g G0
          rw [HKp.out]
          go_wp2_with fail
          refine (keyed_any _ _ q G1.out.2.2 (by omega)).mono ?_
          rintro e W2 ⟨rfl, g⟩
          have G2 := hid0 (And.intro (G1.out.1.trans g) (And.intro (G1.out.2.1.ext g) (G1.out.2.2.ext g)))
          clear g G1
          rw [HKq.out]
          go_wp2_with fail
          refine (Tree_any _ _ p G2.out.2.1 (by omega) HWp.out).mono ?_
          rintro e W3 ⟨tv, rfl, o, g⟩
          obtain ⟨ta, tc, rfl⟩ := (OwnP.sl o).form
          have G3 := hid0 (And.intro (G2.out.1.trans g) (And.intro (G2.out.2.1.ext g) (And.intro (G2.out.2.2.ext g) (OwnP.sl o))))
          clear g o G2
          go_wp2_with fail
          refine (Tree_any _ _ q G3.out.2.2.1 (by omega) HWq.out).mono ?_
          rintro e W4 ⟨uv, rfl, o, g⟩
          obtain ⟨ua, uc, rfl⟩ := (OwnP.sl o).form
          have G4 := hid0 (And.intro (G3.out.1.trans g) (And.intro (G3.out.2.1.ext g) (And.intro (G3.out.2.2.1.ext g) (And.intro (G3.out.2.2.2.ext g) (OwnP.sl o)))))
          clear g o G3
          go_wp2_with fail
          refine (no_any _).mono ?_
          rintro e W5 ⟨rfl, g⟩
          have G5 := hid0 (And.intro (G4.out.1.trans g) (And.intro (G4.out.2.1.ext g) (And.intro (G4.out.2.2.1.ext g) (And.intro (G4.out.2.2.2.1.ext g) (G4.out.2.2.2.2.ext g)))))
          clear g G4
          go_wp2_with fail
          refine (IIntersection_any _ _ _ (p) (q) mN G5.out.2.1 G5.out.2.2.1 (by omega) (by omega) (HWp.out.ok HKp.out) (HWq.out.ok HKq.out)).mono ?_
          rintro e W6 ⟨xv, cv, dv, rfl, s1, s2, s3, s4, g⟩
          obtain ⟨xa, xc, rfl⟩ := s1.form
          obtain ⟨ca, cc, rfl⟩ := s2.form
          obtain ⟨da, dc, rfl⟩ := s3.form
          have HOx := hid0 s4
          have G6 := hid0 (And.intro (G5.out.1.trans g) (And.intro (G5.out.2.1.ext g) (And.intro (G5.out.2.2.1.ext g) (And.intro (G5.out.2.2.2.1.ext g) (And.intro (G5.out.2.2.2.2.ext g) (And.intro (s1) (And.intro (s2) (s3))))))))
          clear g s1 s2 s3 s4 G5
          go_wp2_with fail
          refine (left_any _).mono ?_
          rintro e W7 ⟨rfl, g⟩
          have G7 := hid0 (And.intro (G6.out.1.trans g) (And.intro (G6.out.2.1.ext g) (And.intro (G6.out.2.2.1.ext g) (And.intro (G6.out.2.2.2.1.ext g) (And.intro (G6.out.2.2.2.2.1.ext g) (And.intro (G6.out.2.2.2.2.2.1.ext g) (And.intro (G6.out.2.2.2.2.2.2.1.ext g) (G6.out.2.2.2.2.2.2.2.ext g))))))))
          clear g G6
          go_wp2_with fail
          refine (Intersection_any _ _ _ (treeP p) (treeP q) mL G7.out.2.2.2.1 G7.out.2.2.2.2.1 HLp.out HLq.out).mono ?_
          rintro e W8 ⟨fv, rfl, o, g⟩
          obtain ⟨fa, fc, rfl⟩ := (OwnP.sl o).form
          have G8 := hid0 (And.intro (G7.out.1.trans g) (And.intro (G7.out.2.1.ext g) (And.intro (G7.out.2.2.1.ext g) (And.intro (G7.out.2.2.2.1.ext g) (And.intro (G7.out.2.2.2.2.1.ext g) (And.intro (G7.out.2.2.2.2.2.1.ext g) (And.intro (G7.out.2.2.2.2.2.2.1.ext g) (And.intro (G7.out.2.2.2.2.2.2.2.ext g) (OwnP.sl o)))))))))
          clear g o G7
          go_wp2_with fail
          refine (right_any _).mono ?_
          rintro e W9 ⟨rfl, g⟩
          have G9 := hid0 (And.intro (G8.out.1.trans g) (And.intro (G8.out.2.1.ext g) (And.intro (G8.out.2.2.1.ext g) (And.intro (G8.out.2.2.2.1.ext g) (And.intro (G8.out.2.2.2.2.1.ext g) (And.intro (G8.out.2.2.2.2.2.1.ext g) (And.intro (G8.out.2.2.2.2.2.2.1.ext g) (And.intro (G8.out.2.2.2.2.2.2.2.1.ext g) (G8.out.2.2.2.2.2.2.2.2.ext g)))))))))
          clear g G8
          go_wp2_with fail
          refine (Intersection_any _ _ _ (treeP p) (treeP q) mR G9.out.2.2.2.1 G9.out.2.2.2.2.1 HLp.out HLq.out).mono ?_
          rintro e W10 ⟨sv, rfl, o, g⟩
          obtain ⟨sa, sc, rfl⟩ := (OwnP.sl o).form
          have G10 := hid0 (And.intro (G9.out.1.trans g) (And.intro (G9.out.2.1.ext g) (And.intro (G9.out.2.2.1.ext g) (And.intro (G9.out.2.2.2.1.ext g) (And.intro (G9.out.2.2.2.2.1.ext g) (And.intro (G9.out.2.2.2.2.2.1.ext g) (And.intro (G9.out.2.2.2.2.2.2.1.ext g) (And.intro (G9.out.2.2.2.2.2.2.2.1.ext g) (And.intro (G9.out.2.2.2.2.2.2.2.2.ext g) (OwnP.sl o))))))))))
          clear g o G9
          go_wp2_with fail
          refine (Same_any _ _ _ (treeP p) (treeP p) G10.out.2.2.2.2.2.2.1 G10.out.2.2.2.1 (by have := HLp.out; omega)).mono ?_
          rintro e W11 ⟨rfl, g⟩
          have G11 := hid0 (And.intro (G10.out.1.trans g) (And.intro (G10.out.2.1.ext g) (And.intro (G10.out.2.2.1.ext g) (And.intro (G10.out.2.2.2.1.ext g) (And.intro (G10.out.2.2.2.2.1.ext g) (And.intro (G10.out.2.2.2.2.2.1.ext g) (And.intro (G10.out.2.2.2.2.2.2.1.ext g) (And.intro (G10.out.2.2.2.2.2.2.2.1.ext g) (And.intro (G10.out.2.2.2.2.2.2.2.2.1.ext g) (G10.out.2.2.2.2.2.2.2.2.2.ext g))))))))))
          clear g G10
          rw [decide_eq_true (rfl)]
          go_wp2_with fail
          refine (Same_any _ _ _ (treeP q) (treeP q) G11.out.2.2.2.2.2.2.2.1 G11.out.2.2.2.2.1 (by have := HLq.out; omega)).mono ?_
          rintro e W12 ⟨rfl, g⟩
          have G12 := hid0 (And.intro (G11.out.1.trans g) (And.intro (G11.out.2.1.ext g) (And.intro (G11.out.2.2.1.ext g) (And.intro (G11.out.2.2.2.1.ext g) (And.intro (G11.out.2.2.2.2.1.ext g) (And.intro (G11.out.2.2.2.2.2.1.ext g) (And.intro (G11.out.2.2.2.2.2.2.1.ext g) (And.intro (G11.out.2.2.2.2.2.2.2.1.ext g) (And.intro (G11.out.2.2.2.2.2.2.2.2.1.ext g) (G11.out.2.2.2.2.2.2.2.2.2.ext g))))))))))
          clear g G11
          rw [decide_eq_true (rfl)]
          go_wp2_with fail
          refine (Same_any _ _ _ (interI (opOf mN) (treeP p) (treeP q)) (interS (mixV mL) (treeP p) (treeP q)) G12.out.2.2.2.2.2.1 G12.out.2.2.2.2.2.2.2.2.1 (by have := Ok.length HOx.out; omega)).mono ?_
          rintro e W13 ⟨rfl, g⟩
          have G13 := hid0 (And.intro (G12.out.1.trans g) (And.intro (G12.out.2.1.ext g) (And.intro (G12.out.2.2.1.ext g) (And.intro (G12.out.2.2.2.1.ext g) (And.intro (G12.out.2.2.2.2.1.ext g) (And.intro (G12.out.2.2.2.2.2.1.ext g) (And.intro (G12.out.2.2.2.2.2.2.1.ext g) (And.intro (G12.out.2.2.2.2.2.2.2.1.ext g) (And.intro (G12.out.2.2.2.2.2.2.2.2.1.ext g) (G12.out.2.2.2.2.2.2.2.2.2.ext g))))))))))
          clear g G12
          rw [decide_eq_true (HEQ.out)]
          go_wp2
          go_ret
          exact ⟨rfl, G13.out.1⟩
        · have HEQ := hid0 (iN_gt (up_treeP p) (up_treeP q) (by omega) HR.out.2)
          clear hle
          go_enter Try.func6, Try.ntmps6
          go_wp2_with fail
          refine (keyed_any _ _ p G0.out.2.1 (by omega)).mono ?_
          rintro e W1 ⟨rfl, g⟩
          have G1 := hid0 (And.intro (G0.out.1.trans g) (And.intro (G0.out.2.1.ext g) (G0.out.2.2.ext g)))
          clear g G0
          rw [HKp.out]
          go_wp2_with fail
          refine (keyed_any _ _ q G1.out.2.2 (by omega)).mono ?_
          rintro e W2 ⟨rfl, g⟩
          have G2 := hid0 (And.intro (G1.out.1.trans g) (And.intro (G1.out.2.1.ext g) (G1.out.2.2.ext g)))
          clear g G1
          rw [HKq.out]
          go_wp2_with fail
          refine (Tree_any _ _ p G2.out.2.1 (by omega) HWp.out).mono ?_
          rintro e W3 ⟨tv, rfl, o, g⟩
          obtain ⟨ta, tc, rfl⟩ := (OwnP.sl o).form
          have G3 := hid0 (And.intro (G2.out.1.trans g) (And.intro (G2.out.2.1.ext g) (And.intro (G2.out.2.2.ext g) (OwnP.sl o))))
          clear g o G2
          go_wp2_with fail
          refine (Tree_any _ _ q G3.out.2.2.1 (by omega) HWq.out).mono ?_
          rintro e W4 ⟨uv, rfl, o, g⟩
          obtain ⟨ua, uc, rfl⟩ := (OwnP.sl o).form
          have G4 := hid0 (And.intro (G3.out.1.trans g) (And.intro (G3.out.2.1.ext g) (And.intro (G3.out.2.2.1.ext g) (And.intro (G3.out.2.2.2.ext g) (OwnP.sl o)))))
          clear g o G3
          go_wp2_with fail
          refine (no_any _).mono ?_
          rintro e W5 ⟨rfl, g⟩
          have G5 := hid0 (And.intro (G4.out.1.trans g) (And.intro (G4.out.2.1.ext g) (And.intro (G4.out.2.2.1.ext g) (And.intro (G4.out.2.2.2.1.ext g) (G4.out.2.2.2.2.ext g)))))
          clear g G4
          go_wp2_with fail
          refine (IIntersection_any _ _ _ (p) (q) mN G5.out.2.1 G5.out.2.2.1 (by omega) (by omega) (HWp.out.ok HKp.out) (HWq.out.ok HKq.out)).mono ?_
          rintro e W6 ⟨xv, cv, dv, rfl, s1, s2, s3, s4, g⟩
          obtain ⟨xa, xc, rfl⟩ := s1.form
          obtain ⟨ca, cc, rfl⟩ := s2.form
          obtain ⟨da, dc, rfl⟩ := s3.form
          have HOx := hid0 s4
          have G6 := hid0 (And.intro (G5.out.1.trans g) (And.intro (G5.out.2.1.ext g) (And.intro (G5.out.2.2.1.ext g) (And.intro (G5.out.2.2.2.1.ext g) (And.intro (G5.out.2.2.2.2.ext g) (And.intro (s1) (And.intro (s2) (s3))))))))
          clear g s1 s2 s3 s4 G5
          go_wp2_with fail
          refine (left_any _).mono ?_
          rintro e W7 ⟨rfl, g⟩
          have G7 := hid0 (And.intro (G6.out.1.trans g) (And.intro (G6.out.2.1.ext g) (And.intro (G6.out.2.2.1.ext g) (And.intro (G6.out.2.2.2.1.ext g) (And.intro (G6.out.2.2.2.2.1.ext g) (And.intro (G6.out.2.2.2.2.2.1.ext g) (And.intro (G6.out.2.2.2.2.2.2.1.ext g) (G6.out.2.2.2.2.2.2.2.ext g))))))))
          clear g G6
          go_wp2_with fail
          refine (Intersection_any _ _ _ (treeP p) (treeP q) mL G7.out.2.2.2.1 G7.out.2.2.2.2.1 HLp.out HLq.out).mono ?_
          rintro e W8 ⟨fv, rfl, o, g⟩
          obtain ⟨fa, fc, rfl⟩ := (OwnP.sl o).form
          have G8 := hid0 (And.intro (G7.out.1.trans g) (And.intro (G7.out.2.1.ext g) (And.intro (G7.out.2.2.1.ext g) (And.intro (G7.out.2.2.2.1.ext g) (And.intro (G7.out.2.2.2.2.1.ext g) (And.intro (G7.out.2.2.2.2.2.1.ext g) (And.intro (G7.out.2.2.2.2.2.2.1.ext g) (And.intro (G7.out.2.2.2.2.2.2.2.ext g) (OwnP.sl o)))))))))
          clear g o G7
          go_wp2_with fail
          refine (right_any _).mono ?_
          rintro e W9 ⟨rfl, g⟩
          have G9 := hid0 (And.intro (G8.out.1.trans g) (And.intro (G8.out.2.1.ext g) (And.intro (G8.out.2.2.1.ext g) (And.intro (G8.out.2.2.2.1.ext g) (And.intro (G8.out.2.2.2.2.1.ext g) (And.intro (G8.out.2.2.2.2.2.1.ext g) (And.intro (G8.out.2.2.2.2.2.2.1.ext g) (And.intro (G8.out.2.2.2.2.2.2.2.1.ext g) (G8.out.2.2.2.2.2.2.2.2.ext g)))))))))
          clear g G8
          go_wp2_with fail
          refine (Intersection_any _ _ _ (treeP p) (treeP q) mR G9.out.2.2.2.1 G9.out.2.2.2.2.1 HLp.out HLq.out).mono ?_
          rintro e W10 ⟨sv, rfl, o, g⟩
          obtain ⟨sa, sc, rfl⟩ := (OwnP.sl o).form
          have G10 := hid0 (And.intro (G9.out.1.trans g) (And.intro (G9.out.2.1.ext g) (And.intro (G9.out.2.2.1.ext g) (And.intro (G9.out.2.2.2.1.ext g) (And.intro (G9.out.2.2.2.2.1.ext g) (And.intro (G9.out.2.2.2.2.2.1.ext g) (And.intro (G9.out.2.2.2.2.2.2.1.ext g) (And.intro (G9.out.2.2.2.2.2.2.2.1.ext g) (And.intro (G9.out.2.2.2.2.2.2.2.2.ext g) (OwnP.sl o))))))))))
          clear g o G9
          go_wp2_with fail
          refine (Same_any _ _ _ (treeP p) (treeP p) G10.out.2.2.2.2.2.2.1 G10.out.2.2.2.1 (by have := HLp.out; omega)).mono ?_
          rintro e W11 ⟨rfl, g⟩
          have G11 := hid0 (And.intro (G10.out.1.trans g) (And.intro (G10.out.2.1.ext g) (And.intro (G10.out.2.2.1.ext g) (And.intro (G10.out.2.2.2.1.ext g) (And.intro (G10.out.2.2.2.2.1.ext g) (And.intro (G10.out.2.2.2.2.2.1.ext g) (And.intro (G10.out.2.2.2.2.2.2.1.ext g) (And.intro (G10.out.2.2.2.2.2.2.2.1.ext g) (And.intro (G10.out.2.2.2.2.2.2.2.2.1.ext g) (G10.out.2.2.2.2.2.2.2.2.2.ext g))))))))))
          clear g G10
          rw [decide_eq_true (rfl)]
          go_wp2_with fail
          refine (Same_any _ _ _ (treeP q) (treeP q) G11.out.2.2.2.2.2.2.2.1 G11.out.2.2.2.2.1 (by have := HLq.out; omega)).mono ?_
          rintro e W12 ⟨rfl, g⟩
          have G12 := hid0 (And.intro (G11.out.1.trans g) (And.intro (G11.out.2.1.ext g) (And.intro (G11.out.2.2.1.ext g) (And.intro (G11.out.2.2.2.1.ext g) (And.intro (G11.out.2.2.2.2.1.ext g) (And.intro (G11.out.2.2.2.2.2.1.ext g) (And.intro (G11.out.2.2.2.2.2.2.1.ext g) (And.intro (G11.out.2.2.2.2.2.2.2.1.ext g) (And.intro (G11.out.2.2.2.2.2.2.2.2.1.ext g) (G11.out.2.2.2.2.2.2.2.2.2.ext g))))))))))
          clear g G11
          rw [decide_eq_true (rfl)]
          go_wp2_with fail
          refine (Same_any _ _ _ (interI (opOf mN) (treeP p) (treeP q)) (interS (mixV mR) (treeP p) (treeP q)) G12.out.2.2.2.2.2.1 G12.out.2.2.2.2.2.2.2.2.2 (by have := Ok.length HOx.out; omega)).mono ?_
          rintro e W13 ⟨rfl, g⟩
          have G13 := hid0 (And.intro (G12.out.1.trans g) (And.intro (G12.out.2.1.ext g) (And.intro (G12.out.2.2.1.ext g) (And.intro (G12.out.2.2.2.1.ext g) (And.intro (G12.out.2.2.2.2.1.ext g) (And.intro (G12.out.2.2.2.2.2.1.ext g) (And.intro (G12.out.2.2.2.2.2.2.1.ext g) (And.intro (G12.out.2.2.2.2.2.2.2.1.ext g) (And.intro (G12.out.2.2.2.2.2.2.2.2.1.ext g) (G12.out.2.2.2.2.2.2.2.2.2.ext g))))))))))
          clear g G12
          rw [decide_eq_true (HEQ.out)]
          go_wp2
          go_ret
          exact ⟨rfl, G13.out.1⟩

end Go.Proofs.Ytdmfnlhbddejiaa
