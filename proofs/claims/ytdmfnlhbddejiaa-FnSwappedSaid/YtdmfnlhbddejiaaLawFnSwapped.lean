/- The walk of FnSwapped. -/
import Derived.Test.YtdmfnlhbddejiaaImplU
namespace Go.Proofs.Ytdmfnlhbddejiaa
open Go.RowKit

set_option maxRecDepth 100000 in
set_option maxHeartbeats 1000000 in
theorem FnSwapped_walk (w : World) (vp : Value) (p : Ps) (hp : SlP w vp p) (lp : p.length ≤ 8796093021952) (wp : KeysW p) (dp : DataR p) (vq : Value) (q : Ps) (hq : SlP w vq q) (lq : q.length ≤ 8796093021952) (wq : KeysW q) (dq : DataR q) (m : Mx) (_rm : MxR m) :
    Calls Try.prog 11 #[vp, vq, mxv m] w fun e w' => e = .returned (.bool true) ∧ Kept Non w w' := by
  have HWp := hid0 wp
  have HDp := hid0 dp
  have HWq := hid0 wq
  have HDq := hid0 dq
  have G0 := hid0 (And.intro (Kept.refl Non w) (And.intro (hp) (hq)))
  have HLp := hid0 (treeP_len0 wp)
  have HLq := hid0 (treeP_len0 wq)
  clear hp wp dp hq wq dq
  obtain ⟨no, ma, mb, mc, md, rs⟩ := m
  simp only [mxv]
  cases hkp : keyedB p with
  | false =>
    have HKp := hid0 hkp
    clear hkp
    go_enter Try.func11, Try.ntmps11
    go_wp2_with fail
    refine (keyed_any _ _ p (G0.out.2.1.ext ((Kept.refl _ _).alloc _)) (by omega)).mono ?_
    rintro e W1 ⟨rfl, g⟩
    have G1 := hid0 (And.intro ((G0.out.1.alloc _).trans g) (And.intro ((G0.out.2.1.ext ((Kept.refl _ _).alloc _)).ext g) (And.intro ((G0.out.2.2.ext ((Kept.refl _ _).alloc _)).ext g) ((MixAt.ext (m := ⟨no, ma, mb, mc, md, rs⟩) ⟨alloc_new _ _⟩ g)))))
    clear g G0
    rw [HKp.out]
    go_wp2
    go_ret
    exact ⟨rfl, G1.out.1⟩
  | true =>
    have HKp := hid0 hkp
    clear hkp
    cases hkq : keyedB q with
    | false =>
      have HKq := hid0 hkq
      clear hkq
      go_enter Try.func11, Try.ntmps11
      go_wp2_with fail
      refine (keyed_any _ _ p (G0.out.2.1.ext ((Kept.refl _ _).alloc _)) (by omega)).mono ?_
      rintro e W1 ⟨rfl, g⟩
      have G1 := hid0 (And.intro ((G0.out.1.alloc _).trans g) (And.intro ((G0.out.2.1.ext ((Kept.refl _ _).alloc _)).ext g) (And.intro ((G0.out.2.2.ext ((Kept.refl _ _).alloc _)).ext g) ((MixAt.ext (m := ⟨no, ma, mb, mc, md, rs⟩) ⟨alloc_new _ _⟩ g)))))
      clear g G0
      rw [HKp.out]
      go_wp2_with fail
      refine (keyed_any _ _ q G1.out.2.2.1 (by omega)).mono ?_
      rintro e W2 ⟨rfl, g⟩
      have G2 := hid0 (And.intro (G1.out.1.trans g) (And.intro (G1.out.2.1.ext g) (And.intro (G1.out.2.2.1.ext g) (G1.out.2.2.2.ext g))))
      clear g G1
      rw [HKq.out]
      go_wp2
      go_ret
      exact ⟨rfl, G2.out.1⟩
    | true =>
      have HKq := hid0 hkq
      clear hkq
      cases no with
      | true =>
        go_enter Try.func11, Try.ntmps11
        go_wp2_with fail
        refine (keyed_any _ _ p (G0.out.2.1.ext ((Kept.refl _ _).alloc _)) (by omega)).mono ?_
        rintro e W1 ⟨rfl, g⟩
        have G1 := hid0 (And.intro ((G0.out.1.alloc _).trans g) (And.intro ((G0.out.2.1.ext ((Kept.refl _ _).alloc _)).ext g) (And.intro ((G0.out.2.2.ext ((Kept.refl _ _).alloc _)).ext g) ((MixAt.ext (m := ⟨true, ma, mb, mc, md, rs⟩) ⟨alloc_new _ _⟩ g)))))
        clear g G0
        rw [HKp.out]
        go_wp2_with fail
        refine (keyed_any _ _ q G1.out.2.2.1 (by omega)).mono ?_
        rintro e W2 ⟨rfl, g⟩
        have G2 := hid0 (And.intro (G1.out.1.trans g) (And.intro (G1.out.2.1.ext g) (And.intro (G1.out.2.2.1.ext g) (G1.out.2.2.2.ext g))))
        clear g G1
        rw [HKq.out]
        have m0 := G2.out.2.2.2.cells.c0
        simp only at m0
        go_wp2
        go_ret
        exact ⟨rfl, G2.out.1⟩
      | false =>
        go_enter Try.func11, Try.ntmps11
        go_wp2_with fail
        refine (keyed_any _ _ p (G0.out.2.1.ext ((Kept.refl _ _).alloc _)) (by omega)).mono ?_
        rintro e W1 ⟨rfl, g⟩
        have G1 := hid0 (And.intro ((G0.out.1.alloc _).trans g) (And.intro ((G0.out.2.1.ext ((Kept.refl _ _).alloc _)).ext g) (And.intro ((G0.out.2.2.ext ((Kept.refl _ _).alloc _)).ext g) ((MixAt.ext (m := ⟨false, ma, mb, mc, md, rs⟩) ⟨alloc_new _ _⟩ g)))))
        clear g G0
        rw [HKp.out]
        go_wp2_with fail
        refine (keyed_any _ _ q G1.out.2.2.1 (by omega)).mono ?_
        rintro e W2 ⟨rfl, g⟩
        have G2 := hid0 (And.intro (G1.out.1.trans g) (And.intro (G1.out.2.1.ext g) (And.intro (G1.out.2.2.1.ext g) (G1.out.2.2.2.ext g))))
        clear g G1
        rw [HKq.out]
        obtain ⟨m0, m1, m2, m3, m4, m5⟩ := G2.out.2.2.2.cells
        try simp only at m0 m1 m2 m3 m4 m5
        have hmm := fun o => (G2.out.2.2.2.ext ((Kept.refl _ _).alloc o)).cells
        have mm1 := fun o => (hmm o).c1
        have mm2 := fun o => (hmm o).c2
        try simp only at mm1 mm2
        have hne : w.heap.size ≠ W2.heap.size := Nat.ne_of_lt (block_lt G2.out.2.2.2.blk)
        clear hmm
        go_wp2_with fail
        refine (Tree_any _ _ p (G2.out.2.1.ext (by repeat (first | exact Kept.refl _ _ | refine Kept.alloc ?_ _ | refine Kept.setNew ?_ _ _ (Nat.le_refl _) _))) (by omega) HWp.out).mono ?_
        rintro e W3 ⟨tv, rfl, o, g⟩
        obtain ⟨ta, tc, rfl⟩ := (OwnP.sl o).form
        have G3 := hid0 (And.intro ((G2.out.1.trans (by repeat (first | exact Kept.refl _ _ | refine Kept.alloc ?_ _ | refine Kept.setNew ?_ _ _ (Nat.le_refl _) _))).trans g) (And.intro ((G2.out.2.1.ext (by repeat (first | exact Kept.refl _ _ | refine Kept.alloc ?_ _ | refine Kept.setNew ?_ _ _ (Nat.le_refl _) _))).ext g) (And.intro ((G2.out.2.2.1.ext (by repeat (first | exact Kept.refl _ _ | refine Kept.alloc ?_ _ | refine Kept.setNew ?_ _ _ (Nat.le_refl _) _))).ext g) (And.intro ((G2.out.2.2.2.ext (by repeat (first | exact Kept.refl _ _ | refine Kept.alloc ?_ _ | refine Kept.setNew ?_ _ _ (Nat.le_refl _) _))).ext g) (And.intro ((MixAt.ext (m := ⟨false, mb, ma, mc, md, rs⟩) ⟨by first | exact alloc_new _ _ | exact set_block (set_block (alloc_new _ _) 1 _) 2 _⟩ g)) (OwnP.sl o))))))
        clear g o mm1 mm2 hne m0 m1 m2 m3 m4 m5 G2
        go_wp2_with fail
        refine (Tree_any _ _ q G3.out.2.2.1 (by omega) HWq.out).mono ?_
        rintro e W4 ⟨uv, rfl, o, g⟩
        obtain ⟨ua, uc, rfl⟩ := (OwnP.sl o).form
        have G4 := hid0 (And.intro (G3.out.1.trans g) (And.intro (G3.out.2.1.ext g) (And.intro (G3.out.2.2.1.ext g) (And.intro (G3.out.2.2.2.1.ext g) (And.intro (G3.out.2.2.2.2.1.ext g) (And.intro (G3.out.2.2.2.2.2.ext g) (OwnP.sl o)))))))
        clear g o G3
        cases hf1 : freshB (mixV ⟨false, ma, mb, mc, md, rs⟩) (treeP p) (treeP q)
        · have HF1 := hid0 hf1
          clear hf1
          obtain ⟨m0, m1, m2, m3, m4, m5⟩ := G4.out.2.2.2.1.cells
          try simp only at m0 m1 m2 m3 m4 m5
          go_wp2_with fail
          refine (fresh_any _ _ _ (treeP p) (treeP q) ⟨false, ma, mb, mc, md, rs⟩ G4.out.2.2.2.2.2.1 G4.out.2.2.2.2.2.2 HLp.out HLq.out).mono ?_
          rintro e W5 ⟨rfl, g⟩
          have G5 := hid0 (And.intro (G4.out.1.trans g) (And.intro (G4.out.2.1.ext g) (And.intro (G4.out.2.2.1.ext g) (And.intro (G4.out.2.2.2.1.ext g) (And.intro (G4.out.2.2.2.2.1.ext g) (And.intro (G4.out.2.2.2.2.2.1.ext g) (G4.out.2.2.2.2.2.2.ext g)))))))
          clear g m0 m1 m2 m3 m4 m5 G4
          rw [HF1.out]
          go_wp2
          go_ret
          exact ⟨rfl, G5.out.1⟩
        · have HF1 := hid0 hf1
          clear hf1
          obtain ⟨m0, m1, m2, m3, m4, m5⟩ := G4.out.2.2.2.1.cells
          try simp only at m0 m1 m2 m3 m4 m5
          go_wp2_with fail
          refine (fresh_any _ _ _ (treeP p) (treeP q) ⟨false, ma, mb, mc, md, rs⟩ G4.out.2.2.2.2.2.1 G4.out.2.2.2.2.2.2 HLp.out HLq.out).mono ?_
          rintro e W5 ⟨rfl, g⟩
          have G5 := hid0 (And.intro (G4.out.1.trans g) (And.intro (G4.out.2.1.ext g) (And.intro (G4.out.2.2.1.ext g) (And.intro (G4.out.2.2.2.1.ext g) (And.intro (G4.out.2.2.2.2.1.ext g) (And.intro (G4.out.2.2.2.2.2.1.ext g) (G4.out.2.2.2.2.2.2.ext g)))))))
          clear g m0 m1 m2 m3 m4 m5 G4
          rw [HF1.out]
          cases hf2 : freshB (mixV ⟨false, mb, ma, mc, md, rs⟩) (treeP q) (treeP p)
          · have HF2 := hid0 hf2
            clear hf2
            obtain ⟨m0, m1, m2, m3, m4, m5⟩ := G5.out.2.2.2.2.1.cells
            try simp only at m0 m1 m2 m3 m4 m5
            go_wp2_with fail
            refine (fresh_any _ _ _ (treeP q) (treeP p) ⟨false, mb, ma, mc, md, rs⟩ G5.out.2.2.2.2.2.2 G5.out.2.2.2.2.2.1 HLq.out HLp.out).mono ?_
            rintro e W6 ⟨rfl, g⟩
            have G6 := hid0 (And.intro (G5.out.1.trans g) (And.intro (G5.out.2.1.ext g) (And.intro (G5.out.2.2.1.ext g) (And.intro (G5.out.2.2.2.1.ext g) (And.intro (G5.out.2.2.2.2.1.ext g) (And.intro (G5.out.2.2.2.2.2.1.ext g) (G5.out.2.2.2.2.2.2.ext g)))))))
            clear g m0 m1 m2 m3 m4 m5 G5
            rw [HF2.out]
            go_wp2
            go_ret
            exact ⟨rfl, G6.out.1⟩
          · have HF2 := hid0 hf2
            clear hf2
            obtain ⟨m0, m1, m2, m3, m4, m5⟩ := G5.out.2.2.2.2.1.cells
            try simp only at m0 m1 m2 m3 m4 m5
            go_wp2_with fail
            refine (fresh_any _ _ _ (treeP q) (treeP p) ⟨false, mb, ma, mc, md, rs⟩ G5.out.2.2.2.2.2.2 G5.out.2.2.2.2.2.1 HLq.out HLp.out).mono ?_
            rintro e W6 ⟨rfl, g⟩
            have G6 := hid0 (And.intro (G5.out.1.trans g) (And.intro (G5.out.2.1.ext g) (And.intro (G5.out.2.2.1.ext g) (And.intro (G5.out.2.2.2.1.ext g) (And.intro (G5.out.2.2.2.2.1.ext g) (And.intro (G5.out.2.2.2.2.2.1.ext g) (G5.out.2.2.2.2.2.2.ext g)))))))
            clear g m0 m1 m2 m3 m4 m5 G5
            rw [HF2.out]
            obtain ⟨m0, m1, m2, m3, m4, m5⟩ := G6.out.2.2.2.1.cells
            try simp only at m0 m1 m2 m3 m4 m5
            go_wp2_with fail
            refine (IUnion_any _ _ _ p q ⟨false, ma, mb, mc, md, rs⟩ G6.out.2.1 G6.out.2.2.1 (by omega) (by omega) (HWp.out.ok HKp.out) (HWq.out.ok HKq.out)).mono ?_
            rintro e W7 ⟨x1v, x2v, x3v, rfl, s1, s2, s3, s4, g⟩
            obtain ⟨x1a, x1c, rfl⟩ := s1.form
            obtain ⟨x2a, x2c, rfl⟩ := s2.form
            obtain ⟨x3a, x3c, rfl⟩ := s3.form
            have HOx1 := hid0 s4
            have G7 := hid0 (And.intro (G6.out.1.trans g) (And.intro (G6.out.2.1.ext g) (And.intro (G6.out.2.2.1.ext g) (And.intro (G6.out.2.2.2.1.ext g) (And.intro (G6.out.2.2.2.2.1.ext g) (And.intro (G6.out.2.2.2.2.2.1.ext g) (And.intro (G6.out.2.2.2.2.2.2.ext g) (And.intro (s1) (And.intro (s2) (s3))))))))))
            clear g s1 s2 s3 s4 m0 m1 m2 m3 m4 m5 G6
            obtain ⟨m0, m1, m2, m3, m4, m5⟩ := G7.out.2.2.2.2.1.cells
            try simp only at m0 m1 m2 m3 m4 m5
            go_wp2_with fail
            refine (IUnion_any _ _ _ q p ⟨false, mb, ma, mc, md, rs⟩ G7.out.2.2.1 G7.out.2.1 (by omega) (by omega) (HWq.out.ok HKq.out) (HWp.out.ok HKp.out)).mono ?_
            rintro e W8 ⟨y1v, y2v, y3v, rfl, s1, s2, s3, s4, g⟩
            obtain ⟨y1a, y1c, rfl⟩ := s1.form
            obtain ⟨y2a, y2c, rfl⟩ := s2.form
            obtain ⟨y3a, y3c, rfl⟩ := s3.form
            have HOy1 := hid0 s4
            have G8 := hid0 (And.intro (G7.out.1.trans g) (And.intro (G7.out.2.1.ext g) (And.intro (G7.out.2.2.1.ext g) (And.intro (G7.out.2.2.2.1.ext g) (And.intro (G7.out.2.2.2.2.1.ext g) (And.intro (G7.out.2.2.2.2.2.1.ext g) (And.intro (G7.out.2.2.2.2.2.2.1.ext g) (And.intro (G7.out.2.2.2.2.2.2.2.1.ext g) (And.intro (G7.out.2.2.2.2.2.2.2.2.1.ext g) (And.intro (G7.out.2.2.2.2.2.2.2.2.2.ext g) (And.intro (s1) (And.intro (s2) (s3)))))))))))))
            clear g s1 s2 s3 s4 m0 m1 m2 m3 m4 m5 G7
            obtain ⟨m0, m1, m2, m3, m4, m5⟩ := G8.out.2.2.2.1.cells
            try simp only at m0 m1 m2 m3 m4 m5
            go_wp2_with fail
            refine (IIntersection_any _ _ _ p q ⟨false, ma, mb, mc, md, rs⟩ G8.out.2.1 G8.out.2.2.1 (by omega) (by omega) (HWp.out.ok HKp.out) (HWq.out.ok HKq.out)).mono ?_
            rintro e W9 ⟨z1v, z2v, z3v, rfl, s1, s2, s3, s4, g⟩
            obtain ⟨z1a, z1c, rfl⟩ := s1.form
            obtain ⟨z2a, z2c, rfl⟩ := s2.form
            obtain ⟨z3a, z3c, rfl⟩ := s3.form
            have HOz1 := hid0 s4
            have G9 := hid0 (And.intro (G8.out.1.trans g) (And.intro (G8.out.2.1.ext g) (And.intro (G8.out.2.2.1.ext g) (And.intro (G8.out.2.2.2.1.ext g) (And.intro (G8.out.2.2.2.2.1.ext g) (And.intro (G8.out.2.2.2.2.2.1.ext g) (And.intro (G8.out.2.2.2.2.2.2.1.ext g) (And.intro (G8.out.2.2.2.2.2.2.2.1.ext g) (And.intro (G8.out.2.2.2.2.2.2.2.2.1.ext g) (And.intro (G8.out.2.2.2.2.2.2.2.2.2.1.ext g) (And.intro (G8.out.2.2.2.2.2.2.2.2.2.2.1.ext g) (And.intro (G8.out.2.2.2.2.2.2.2.2.2.2.2.1.ext g) (And.intro (G8.out.2.2.2.2.2.2.2.2.2.2.2.2.ext g) (And.intro (s1) (And.intro (s2) (s3))))))))))))))))
            clear g s1 s2 s3 s4 m0 m1 m2 m3 m4 m5 G8
            obtain ⟨m0, m1, m2, m3, m4, m5⟩ := G9.out.2.2.2.2.1.cells
            try simp only at m0 m1 m2 m3 m4 m5
            go_wp2_with fail
            refine (IIntersection_any _ _ _ q p ⟨false, mb, ma, mc, md, rs⟩ G9.out.2.2.1 G9.out.2.1 (by omega) (by omega) (HWq.out.ok HKq.out) (HWp.out.ok HKp.out)).mono ?_
            rintro e W10 ⟨k1v, k2v, k3v, rfl, s1, s2, s3, s4, g⟩
            obtain ⟨k1a, k1c, rfl⟩ := s1.form
            obtain ⟨k2a, k2c, rfl⟩ := s2.form
            obtain ⟨k3a, k3c, rfl⟩ := s3.form
            have HOk1 := hid0 s4
            have G10 := hid0 (And.intro (G9.out.1.trans g) (And.intro (G9.out.2.1.ext g) (And.intro (G9.out.2.2.1.ext g) (And.intro (G9.out.2.2.2.1.ext g) (And.intro (G9.out.2.2.2.2.1.ext g) (And.intro (G9.out.2.2.2.2.2.1.ext g) (And.intro (G9.out.2.2.2.2.2.2.1.ext g) (And.intro (G9.out.2.2.2.2.2.2.2.1.ext g) (And.intro (G9.out.2.2.2.2.2.2.2.2.1.ext g) (And.intro (G9.out.2.2.2.2.2.2.2.2.2.1.ext g) (And.intro (G9.out.2.2.2.2.2.2.2.2.2.2.1.ext g) (And.intro (G9.out.2.2.2.2.2.2.2.2.2.2.2.1.ext g) (And.intro (G9.out.2.2.2.2.2.2.2.2.2.2.2.2.1.ext g) (And.intro (G9.out.2.2.2.2.2.2.2.2.2.2.2.2.2.1.ext g) (And.intro (G9.out.2.2.2.2.2.2.2.2.2.2.2.2.2.2.1.ext g) (And.intro (G9.out.2.2.2.2.2.2.2.2.2.2.2.2.2.2.2.ext g) (And.intro (s1) (And.intro (s2) (s3)))))))))))))))))))
            clear g s1 s2 s3 s4 m0 m1 m2 m3 m4 m5 G9
            have f1 : Fresh (mixV ⟨false, ma, mb, mc, md, rs⟩) (treeP p) (treeP q) := freshB_fresh HF1.out
            have f2 : Fresh (mixV (swp ⟨false, ma, mb, mc, md, rs⟩)) (treeP q) (treeP p) := freshB_fresh HF2.out
            have e1 : unionI (opOf ⟨false, ma, mb, mc, md, rs⟩) (treeP p) (treeP q) = unionI (opOf ⟨false, mb, ma, mc, md, rs⟩) (treeP q) (treeP p) := swap_u (up_treeP p) (up_treeP q) f1 f2
            have e2 : interI (opOf ⟨false, ma, mb, mc, md, rs⟩) (treeP p) (treeP q) = interI (opOf ⟨false, mb, ma, mc, md, rs⟩) (treeP q) (treeP p) := swap_i (up_treeP p) (up_treeP q) f1 f2
            have hn : (unionI (opOf ⟨false, ma, mb, mc, md, rs⟩) (treeP p) (treeP q)).length + 2 * (interS (mixV mL) (treeP p) (treeP q)).length = (treeP p).length + (treeP q).length + (interI (opOf ⟨false, ma, mb, mc, md, rs⟩) (treeP p) (treeP q)).length := by
              have g1 : unionI (opOf ⟨false, ma, mb, mc, md, rs⟩) (treeP p) (treeP q) = unionS (mixV ⟨false, ma, mb, mc, md, rs⟩) (treeP p) (treeP q) := unionI_some (up_treeP p) (up_treeP q) f1
              have g2 : interI (opOf ⟨false, ma, mb, mc, md, rs⟩) (treeP p) (treeP q) = interS (mixV ⟨false, ma, mb, mc, md, rs⟩) (treeP p) (treeP q) := interI_some (up_treeP p) (up_treeP q) f1
              rw [g1, g2]
              exact union_len (up_treeP p) (up_treeP q) _
            have hc : (interS (mixV mL) (treeP p) (treeP q)).length ≤ (treeP p).length := fmap_length _ _
            have HE := hid0 (And.intro e1 (And.intro e2 (And.intro hn hc)))
            clear f1 f2 e1 e2 hn hc
            go_wp2_with fail
            refine (Same_any _ _ _ (unionI (opOf ⟨false, ma, mb, mc, md, rs⟩) (treeP p) (treeP q)) (unionI (opOf ⟨false, mb, ma, mc, md, rs⟩) (treeP q) (treeP p)) G10.out.2.2.2.2.2.2.2.1 G10.out.2.2.2.2.2.2.2.2.2.2.1 (by have := Ok.length HOx1.out; omega)).mono ?_
            rintro e W11 ⟨rfl, g⟩
            have G11 := hid0 (And.intro (G10.out.1.trans g) (And.intro (G10.out.2.1.ext g) (And.intro (G10.out.2.2.1.ext g) (And.intro (G10.out.2.2.2.1.ext g) (And.intro (G10.out.2.2.2.2.1.ext g) (And.intro (G10.out.2.2.2.2.2.1.ext g) (And.intro (G10.out.2.2.2.2.2.2.1.ext g) (And.intro (G10.out.2.2.2.2.2.2.2.1.ext g) (And.intro (G10.out.2.2.2.2.2.2.2.2.1.ext g) (And.intro (G10.out.2.2.2.2.2.2.2.2.2.1.ext g) (And.intro (G10.out.2.2.2.2.2.2.2.2.2.2.1.ext g) (And.intro (G10.out.2.2.2.2.2.2.2.2.2.2.2.1.ext g) (And.intro (G10.out.2.2.2.2.2.2.2.2.2.2.2.2.1.ext g) (And.intro (G10.out.2.2.2.2.2.2.2.2.2.2.2.2.2.1.ext g) (And.intro (G10.out.2.2.2.2.2.2.2.2.2.2.2.2.2.2.1.ext g) (And.intro (G10.out.2.2.2.2.2.2.2.2.2.2.2.2.2.2.2.1.ext g) (And.intro (G10.out.2.2.2.2.2.2.2.2.2.2.2.2.2.2.2.2.1.ext g) (And.intro (G10.out.2.2.2.2.2.2.2.2.2.2.2.2.2.2.2.2.2.1.ext g) (G10.out.2.2.2.2.2.2.2.2.2.2.2.2.2.2.2.2.2.2.ext g)))))))))))))))))))
            clear g G10
            rw [decide_eq_true (HE.out.1)]
            go_wp2_with fail
            refine (Same_any _ _ _ (interI (opOf ⟨false, ma, mb, mc, md, rs⟩) (treeP p) (treeP q)) (interI (opOf ⟨false, mb, ma, mc, md, rs⟩) (treeP q) (treeP p)) G11.out.2.2.2.2.2.2.2.2.2.2.2.2.2.1 G11.out.2.2.2.2.2.2.2.2.2.2.2.2.2.2.2.2.1 (by have := Ok.length HOz1.out; omega)).mono ?_
            rintro e W12 ⟨rfl, g⟩
            have G12 := hid0 (And.intro (G11.out.1.trans g) (And.intro (G11.out.2.1.ext g) (And.intro (G11.out.2.2.1.ext g) (And.intro (G11.out.2.2.2.1.ext g) (And.intro (G11.out.2.2.2.2.1.ext g) (And.intro (G11.out.2.2.2.2.2.1.ext g) (And.intro (G11.out.2.2.2.2.2.2.1.ext g) (And.intro (G11.out.2.2.2.2.2.2.2.1.ext g) (And.intro (G11.out.2.2.2.2.2.2.2.2.1.ext g) (And.intro (G11.out.2.2.2.2.2.2.2.2.2.1.ext g) (And.intro (G11.out.2.2.2.2.2.2.2.2.2.2.1.ext g) (And.intro (G11.out.2.2.2.2.2.2.2.2.2.2.2.1.ext g) (And.intro (G11.out.2.2.2.2.2.2.2.2.2.2.2.2.1.ext g) (And.intro (G11.out.2.2.2.2.2.2.2.2.2.2.2.2.2.1.ext g) (And.intro (G11.out.2.2.2.2.2.2.2.2.2.2.2.2.2.2.1.ext g) (And.intro (G11.out.2.2.2.2.2.2.2.2.2.2.2.2.2.2.2.1.ext g) (And.intro (G11.out.2.2.2.2.2.2.2.2.2.2.2.2.2.2.2.2.1.ext g) (And.intro (G11.out.2.2.2.2.2.2.2.2.2.2.2.2.2.2.2.2.2.1.ext g) (G11.out.2.2.2.2.2.2.2.2.2.2.2.2.2.2.2.2.2.2.ext g)))))))))))))))))))
            clear g G11
            rw [decide_eq_true (HE.out.2.1)]
            go_wp2_with fail
            refine (left_any _).mono ?_
            rintro e W13 ⟨rfl, g⟩
            have G13 := hid0 (And.intro (G12.out.1.trans g) (And.intro (G12.out.2.1.ext g) (And.intro (G12.out.2.2.1.ext g) (And.intro (G12.out.2.2.2.1.ext g) (And.intro (G12.out.2.2.2.2.1.ext g) (And.intro (G12.out.2.2.2.2.2.1.ext g) (And.intro (G12.out.2.2.2.2.2.2.1.ext g) (And.intro (G12.out.2.2.2.2.2.2.2.1.ext g) (And.intro (G12.out.2.2.2.2.2.2.2.2.1.ext g) (And.intro (G12.out.2.2.2.2.2.2.2.2.2.1.ext g) (And.intro (G12.out.2.2.2.2.2.2.2.2.2.2.1.ext g) (And.intro (G12.out.2.2.2.2.2.2.2.2.2.2.2.1.ext g) (And.intro (G12.out.2.2.2.2.2.2.2.2.2.2.2.2.1.ext g) (And.intro (G12.out.2.2.2.2.2.2.2.2.2.2.2.2.2.1.ext g) (And.intro (G12.out.2.2.2.2.2.2.2.2.2.2.2.2.2.2.1.ext g) (And.intro (G12.out.2.2.2.2.2.2.2.2.2.2.2.2.2.2.2.1.ext g) (And.intro (G12.out.2.2.2.2.2.2.2.2.2.2.2.2.2.2.2.2.1.ext g) (And.intro (G12.out.2.2.2.2.2.2.2.2.2.2.2.2.2.2.2.2.2.1.ext g) (G12.out.2.2.2.2.2.2.2.2.2.2.2.2.2.2.2.2.2.2.ext g)))))))))))))))))))
            clear g G12
            go_wp2_with fail
            refine (Intersection_any _ _ _ (treeP p) (treeP q) mL G13.out.2.2.2.2.2.1 G13.out.2.2.2.2.2.2.1 HLp.out HLq.out).mono ?_
            rintro e W14 ⟨sv, rfl, o, g⟩
            obtain ⟨sa, sc, rfl⟩ := (OwnP.sl o).form
            have G14 := hid0 (And.intro (G13.out.1.trans g) (And.intro (G13.out.2.1.ext g) (And.intro (G13.out.2.2.1.ext g) (And.intro (G13.out.2.2.2.1.ext g) (And.intro (G13.out.2.2.2.2.1.ext g) (And.intro (G13.out.2.2.2.2.2.1.ext g) (And.intro (G13.out.2.2.2.2.2.2.1.ext g) (And.intro (G13.out.2.2.2.2.2.2.2.1.ext g) (And.intro (G13.out.2.2.2.2.2.2.2.2.1.ext g) (And.intro (G13.out.2.2.2.2.2.2.2.2.2.1.ext g) (And.intro (G13.out.2.2.2.2.2.2.2.2.2.2.1.ext g) (And.intro (G13.out.2.2.2.2.2.2.2.2.2.2.2.1.ext g) (And.intro (G13.out.2.2.2.2.2.2.2.2.2.2.2.2.1.ext g) (And.intro (G13.out.2.2.2.2.2.2.2.2.2.2.2.2.2.1.ext g) (And.intro (G13.out.2.2.2.2.2.2.2.2.2.2.2.2.2.2.1.ext g) (And.intro (G13.out.2.2.2.2.2.2.2.2.2.2.2.2.2.2.2.1.ext g) (And.intro (G13.out.2.2.2.2.2.2.2.2.2.2.2.2.2.2.2.2.1.ext g) (And.intro (G13.out.2.2.2.2.2.2.2.2.2.2.2.2.2.2.2.2.2.1.ext g) (And.intro (G13.out.2.2.2.2.2.2.2.2.2.2.2.2.2.2.2.2.2.2.ext g) (OwnP.sl o))))))))))))))))))))
            clear g o G13
            have hn := HE.out.2.2
            have hb := And.intro HLp.out (And.intro HLq.out (And.intro (Ok.length HOx1.out) (Ok.length HOz1.out)))
            generalize (unionI (opOf ⟨false, ma, mb, mc, md, rs⟩) (treeP p) (treeP q)).length = nx at hn hb ⊢
            generalize (interS (mixV mL) (treeP p) (treeP q)).length = nc at hn hb ⊢
            generalize (interI (opOf ⟨false, ma, mb, mc, md, rs⟩) (treeP p) (treeP q)).length = nz at hn hb ⊢
            generalize (treeP p).length = np at hn hb ⊢
            generalize (treeP q).length = nq at hn hb ⊢
            have hq : ((nx : Int) == wrap64 (wrap64 (wrap64 ((np : Int) + (nq : Int)) - wrap64 (2 * (nc : Int))) + (nz : Int))) = true := by
              rw [wrap_in (n := 2 * (nc : Int)) ⟨by omega, by omega⟩, wrap_in (n := (np : Int) + (nq : Int)) ⟨by omega, by omega⟩, wrap_in (n := (np : Int) + (nq : Int) - 2 * (nc : Int)) ⟨by omega, by omega⟩, wrap_in ⟨by omega, by omega⟩]
              simp
              omega
            have HQ := hid0 hq
            clear hn hb hq
            go_wp2
            go_ret
            exact ⟨congrArg (fun b => Ending.returned (.bool b)) HQ.out, G14.out.1⟩

end Go.Proofs.Ytdmfnlhbddejiaa
