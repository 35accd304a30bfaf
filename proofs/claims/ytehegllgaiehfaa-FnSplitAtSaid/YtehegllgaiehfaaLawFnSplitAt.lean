/- The walk of FnSplitAt. -/
import Derived.Test.YtehegllgaiehfaaImplU
import Derived.Test.YtehegllgaiehfaaApp3
import Derived.Test.YtehegllgaiehfaaImpl1
import Derived.Test.YtehegllgaiehfaaImpl2
import Derived.Test.YtehegllgaiehfaaHist
namespace Go.Proofs.Ytehegllgaiehfaa
open Go.RowKit

def lowP (x : Int) (p : Ps) : Ps := p.filter fun a => decide (a.1 < x)
def highP (x : Int) (p : Ps) : Ps := p.filter fun a => !decide (a.1 < x)
theorem low_tree (x : Int) (p : Ps) : treeP (lowP x p) = lowP x (treeP p) := (up_treeP _).ext (List.Pairwise.filter _ (up_treeP p)) fun k => by
  rw [lowP, lowP, look_treeP_filter (fun a => decide (a < x)), look_filter (q := fun a => decide (a < x))]
theorem high_tree (x : Int) (p : Ps) : treeP (highP x p) = highP x (treeP p) := (up_treeP _).ext (List.Pairwise.filter _ (up_treeP p)) fun k => by
  rw [highP, highP, look_treeP_filter (fun a => !decide (a < x)), look_filter (q := fun a => !decide (a < x))]
theorem split_max (x : Int) (p : Ps) : (treeP (lowP x p)).getLast? = glbP x false (treeP p) := by
  rw [low_tree, lowP, glbP]
  congr 2
  funext a
  simp
theorem split_min (x : Int) (p : Ps) : (treeP (highP x p)).head? = lubP x true (treeP p) := by
  rw [high_tree, highP, lubP, List.head?_filter]
  congr 1
  funext a
  by_cases h : a.1 < x
  · have h2 : ¬ x < a.1 := by omega
    have h3 : (a.1 == x) = false := by simp; omega
    simp [h, h2, h3]
  · by_cases h3 : a.1 = x
    · simp [h3]
    · have h2 : x < a.1 := by omega
      simp [h, h2]
theorem split_union (o : Option Fun2) (x : Int) (p : Ps) : unionI o (treeP (lowP x p)) (treeP (highP x p)) = treeP p := by
  refine ((up_treeP _).unionI (up_treeP _) o).ext (up_treeP _) fun k => ?_
  rw [look_unionI (up_treeP _) (up_treeP _), lowP, highP, look_treeP_filter (fun a => decide (a < x)), look_treeP_filter (fun a => !decide (a < x))]
  by_cases h : k < x <;> simp [h]
  cases look k (treeP p) <;> rfl
theorem split_len (x : Int) (p : Ps) : (treeP (lowP x p)).length + (treeP (highP x p)).length = (treeP p).length := by
  rw [low_tree, high_tree, lowP, highP, ← List.countP_eq_length_filter, ← List.countP_eq_length_filter, List.length_eq_countP_add_countP (p := fun a => decide (a.1 < x))]
  congr 2
  funext a
  by_cases h : a.1 < x <;> simp [h]

set_option maxRecDepth 100000 in
set_option maxHeartbeats 1000000 in
theorem FnSplitAt_walk (w : World) (vp : Value) (p : Ps) (hp : SlP w vp p) (lp : p.length ≤ 8796093021952) (wp : KeysW p) (_dp : DataR p) (x : Int) (_rx : -2147483648 ≤ x ∧ x ≤ 2147483647) (m : Mx) (_rm : MxR m) :
    Calls Try.prog 3 #[vp, .int .i32 x, mxv m] w fun e w' => e = .returned (.bool true) ∧ Kept Non w w' := by
  obtain ⟨pa, pcc, rfl⟩ := hp.form
  have HWp := hid0 wp
  have G0 := hid0 (And.intro (Kept.refl Non w) hp)
  have HLp := hid0 (treeP_len0 wp)
  clear hp wp
  simp only [mxv]
  cases hkp : keyedB p with
  | false =>
    have HKp := hid0 hkp
    clear hkp
    go_enter Try.func3, Try.ntmps3
    go_wp2_with fail
    refine (keyed_any _ _ p (G0.out.2.ext ((Kept.refl _ _).alloc _)) (by omega)).mono ?_
    rintro e W1 ⟨rfl, g⟩
    have G1 := hid0 (And.intro ((G0.out.1.alloc _).trans g) (And.intro ((G0.out.2.ext ((Kept.refl _ _).alloc _)).ext g) ((MixAt.ext (m := m) ⟨alloc_new _ _⟩ g))))
    clear g G0
    rw [HKp.out]
    go_wp2
    go_ret
    exact ⟨rfl, G1.out.1⟩
  | true =>
    have HKp := hid0 hkp
    clear hkp
    go_enter Try.func3, Try.ntmps3
    go_wp2_with fail
    refine (keyed_any _ _ p (G0.out.2.ext ((Kept.refl _ _).alloc _)) (by omega)).mono ?_
    rintro e W1 ⟨rfl, g⟩
    have G1 := hid0 (And.intro ((G0.out.1.alloc _).trans g) (And.intro ((G0.out.2.ext ((Kept.refl _ _).alloc _)).ext g) ((MixAt.ext (m := m) ⟨alloc_new _ _⟩ g))))
    clear g G0
    rw [HKp.out]
    go_wp2
    go_loopg [7, 8, 19] (p.length) (fun n lo hi i wr => ∃ k : Nat, k + n = p.length ∧ i = .int .i64 k ∧ Kept Non W1 wr ∧ OwnP W1.heap.size wr lo (lowP x (p.take k)) ∧ OwnP W1.heap.size wr hi (highP x (p.take k)) ∧ ∀ b, OwnS lo b → ¬ OwnS hi b)
    case atStart => exact ⟨0, by simp, rfl, Kept.refl _ _, Own.nil _, Own.nil _, fun b h => by simp [OwnS, Value.ownBlock] at h⟩
    case round =>
      obtain ⟨k, hk, rfl, hK, hL, hH, hD⟩ := hrel
      have HK := hid0 (And.intro hK (And.intro hL (And.intro hH hD)))
      by_cases hlt : k < p.length
      · obtain ⟨b, off, rfl, _, c0, c1⟩ := (G1.out.2.1.ext hK).pair (Kept.refl _ _) k hlt
        have hsz := hK.size
        have HLn : Hid ((lowP x (p.take k)).length + 1 ≤ 8796093021953 ∧ (highP x (p.take k)).length + 1 ≤ 8796093021953) := by
          show _ ∧ _
          have h1 := List.length_filter_le (fun a : Int × Int => decide (a.1 < x)) (p.take k)
          have h2 := List.length_filter_le (fun a : Int × Int => !decide (a.1 < x)) (p.take k)
          have h3 := List.length_take_le k p
          unfold lowP highP
          omega
        clear hK hL hH hD
        by_cases hx : p[k].1 < x
        · go_wp2_with (at_builtin; refine wpList_app3 rfl (.tmp 27) (.tmp 29) rfl tyP pc_enc W1.heap.size _ _ rfl ((HK.out.2.1.alloc _).alloc _) (wr.heap.size + 1) p[k] rfl (new_cells (cs := pc p[k]) (by simp)) (by have := HLn.out.1; omega) (by decide) (by simp; omega) ?_)
          intro v' w1 g1 g2 g3
          have hH1 := ((HK.out.2.2.1.alloc (.cells #[.int .i32 p[k].1, .int .i64 p[k].2] 27)).alloc (.cells #[.int .i32 p[k].1, .int .i64 p[k].2] 27)).keptS g2 (fun b hb hb' => HK.out.2.2.2 b hb' hb)
          have hD1 : ∀ b, OwnS v' b → ¬ OwnS u8 b := fun b hb hb' => by
            rcases g3 b hb with h | h
            · exact HK.out.2.2.2 b h hb'
            · have := HK.out.2.2.1.ltS hb'
              try simp at h
              omega
          have HG := hid0 (And.intro g1 (And.intro hH1 (And.intro hD1 (((HK.out.1.alloc _).alloc _).trans' g2 (fun i hi e => by have := HK.out.2.1.block i e; omega)))))
          clear g1 g2 g3 hH1 hD1
          go_wp2
          go_roundg (gk - 1)
          case measure => omega
          case rel => exact ⟨k + 1, by omega, by go_num, HG.out.2.2.2, by rw [lowP, filter_take hlt, if_pos (by simpa using hx)]; exact HG.out.1, by rw [highP, filter_take hlt, if_neg (by simpa using hx), List.append_nil]; exact HG.out.2.1, HG.out.2.2.1⟩
        · go_wp2_with (at_builtin; refine wpList_app3 rfl (.tmp 31) (.tmp 33) rfl tyP pc_enc W1.heap.size _ _ rfl ((HK.out.2.2.1.alloc _).alloc _) (wr.heap.size + 1) p[k] rfl (new_cells (cs := pc p[k]) (by simp)) (by have := HLn.out.2; omega) (by decide) (by simp; omega) ?_)
          intro v' w1 g1 g2 g3
          have hL1 := ((HK.out.2.1.alloc (.cells #[.int .i32 p[k].1, .int .i64 p[k].2] 27)).alloc (.cells #[.int .i32 p[k].1, .int .i64 p[k].2] 27)).keptS g2 (fun b hb hb' => HK.out.2.2.2 b hb hb')
          have hD1 : ∀ b, OwnS u7 b → ¬ OwnS v' b := fun b hb hb' => by
            rcases g3 b hb' with h | h
            · exact HK.out.2.2.2 b hb h
            · have := HK.out.2.1.ltS hb
              try simp at h
              omega
          have HG := hid0 (And.intro g1 (And.intro hL1 (And.intro hD1 (((HK.out.1.alloc _).alloc _).trans' g2 (fun i hi e => by have := HK.out.2.2.1.block i e; omega)))))
          clear g1 g2 g3 hL1 hD1
          go_wp2
          go_roundg (gk - 1)
          case measure => omega
          case rel => exact ⟨k + 1, by omega, by go_num, HG.out.2.2.2, by rw [lowP, filter_take hlt, if_neg (by simpa using hx), List.append_nil]; exact HG.out.2.1, by rw [highP, filter_take hlt, if_pos (by simpa using hx)]; exact HG.out.1, HG.out.2.2.1⟩
      · have hpk : p.take k = p := List.take_of_length_le (by omega)
        rw [hpk] at hL hH
        obtain ⟨la, lc, rfl⟩ := (OwnP.sl hL).form
        obtain ⟨ha, hc, rfl⟩ := (OwnP.sl hH).form
        have G90 := hid0 (And.intro (G1.out.1.trans hK) (And.intro (G1.out.2.1.ext hK) (And.intro (G1.out.2.2.ext hK) (And.intro (OwnP.sl hL) (OwnP.sl hH)))))
        have hkl : KeysOk (lowP x p) := fun a h => HWp.out.ok HKp.out a (List.mem_filter.1 h).1
        have hkh : KeysOk (highP x p) := fun a h => HWp.out.ok HKp.out a (List.mem_filter.1 h).1
        have HLH := hid0 (And.intro hkl hkh)
        have l1 : (lowP x p).length ≤ 8796093021952 := Nat.le_trans (List.length_filter_le _ _) lp
        have l2 : (highP x p).length ≤ 8796093021952 := Nat.le_trans (List.length_filter_le _ _) lp
        clear hK hL hH hD HK hpk hkl hkh
        obtain ⟨m0, m1, m2, m3, m4, m5⟩ := G90.out.2.2.1.cells
        try simp only at m0 m1 m2 m3 m4 m5
        go_wp2_with fail
        refine (IUnion_any _ _ _ (lowP x p) (highP x p) m G90.out.2.2.2.1 G90.out.2.2.2.2 (by omega) (by omega) HLH.out.1 HLH.out.2).mono ?_
        rintro e W91 ⟨uv, cv, dv0, rfl, s1, s2, s3, s4, g⟩
        have HOX := hid0 s4
        rw [split_union] at s1 HOX
        obtain ⟨ua, uc, rfl⟩ := s1.form
        have G91 := hid0 (And.intro (G90.out.1.trans g) (And.intro (G90.out.2.1.ext g) (And.intro (G90.out.2.2.1.ext g) (And.intro (G90.out.2.2.2.1.ext g) (And.intro (G90.out.2.2.2.2.ext g) (s1))))))
        clear g s1 s2 s3 s4 m0 m1 m2 m3 m4 m5 G90
        go_wp2_with fail
        refine (Max_any _ _ (lowP x p) G91.out.2.2.2.1 (by omega) HLH.out.1).mono ?_
        rintro e W92 ⟨rfl, g⟩
        have G92 := hid0 (And.intro (G91.out.1.trans g) (And.intro (G91.out.2.1.ext g) (And.intro (G91.out.2.2.1.ext g) (And.intro (G91.out.2.2.2.1.ext g) (And.intro (G91.out.2.2.2.2.1.ext g) (G91.out.2.2.2.2.2.ext g))))))
        clear g G91
        rw [split_max]
        go_wp2_with fail
        refine (Glb_any _ _ p x G92.out.2.1 (by omega) (HWp.out.ok HKp.out)).mono ?_
        rintro e W93 ⟨rfl, g⟩
        have G93 := hid0 (And.intro (G92.out.1.trans g) (And.intro (G92.out.2.1.ext g) (And.intro (G92.out.2.2.1.ext g) (And.intro (G92.out.2.2.2.1.ext g) (And.intro (G92.out.2.2.2.2.1.ext g) (G92.out.2.2.2.2.2.ext g))))))
        clear g G92
        have hq1 := eql_fd (fdOf (glbP x false (treeP p))) (fdOf (glbP x false (treeP p)))
        have hb1 : (fdOf (glbP x false (treeP p)) == fdOf (glbP x false (treeP p))) = true := by simp
        rw [hb1] at hq1
        generalize fdOf (glbP x false (treeP p)) = f at hq1 ⊢
        obtain ⟨f0, f1, f2⟩ := f
        simp only [fv] at hq1 ⊢
        clear hb1
        go_wp2_with fail
        refine (Min_any _ _ (highP x p) G93.out.2.2.2.2.1 (by omega) HLH.out.2).mono ?_
        rintro e W94 ⟨rfl, g⟩
        have G94 := hid0 (And.intro (G93.out.1.trans g) (And.intro (G93.out.2.1.ext g) (And.intro (G93.out.2.2.1.ext g) (And.intro (G93.out.2.2.2.1.ext g) (And.intro (G93.out.2.2.2.2.1.ext g) (G93.out.2.2.2.2.2.ext g))))))
        clear g G93
        rw [split_min]
        go_wp2_with fail
        refine (LubEq_any _ _ p x G94.out.2.1 (by omega) (HWp.out.ok HKp.out)).mono ?_
        rintro e W95 ⟨rfl, g⟩
        have G95 := hid0 (And.intro (G94.out.1.trans g) (And.intro (G94.out.2.1.ext g) (And.intro (G94.out.2.2.1.ext g) (And.intro (G94.out.2.2.2.1.ext g) (And.intro (G94.out.2.2.2.2.1.ext g) (G94.out.2.2.2.2.2.ext g))))))
        clear g G94
        have hq2 := eql_fd (fdOf (lubP x true (treeP p))) (fdOf (lubP x true (treeP p)))
        have hb2 : (fdOf (lubP x true (treeP p)) == fdOf (lubP x true (treeP p))) = true := by simp
        rw [hb2] at hq2
        generalize fdOf (lubP x true (treeP p)) = f' at hq2 ⊢
        obtain ⟨f3, f4, f5⟩ := f'
        simp only [fv] at hq2 ⊢
        clear hb2
        go_wp2_with fail
        refine (Tree_any _ _ p G95.out.2.1 (by omega) HWp.out).mono ?_
        rintro e W96 ⟨tv, rfl, o, g⟩
        have G96 := hid0 (And.intro (G95.out.1.trans g) (And.intro (G95.out.2.1.ext g) (And.intro (G95.out.2.2.1.ext g) (And.intro (G95.out.2.2.2.1.ext g) (And.intro (G95.out.2.2.2.2.1.ext g) (And.intro (G95.out.2.2.2.2.2.ext g) (OwnP.sl o)))))))
        clear g o G95
        go_wp2_with fail
        refine (Same_any _ _ _ (treeP p) (treeP p) G96.out.2.2.2.2.2.1 G96.out.2.2.2.2.2.2 (by have := HLp.out; omega)).mono ?_
        rintro e W97 ⟨rfl, g⟩
        have G97 := hid0 (And.intro (G96.out.1.trans g) (And.intro (G96.out.2.1.ext g) (And.intro (G96.out.2.2.1.ext g) (And.intro (G96.out.2.2.2.1.ext g) (And.intro (G96.out.2.2.2.2.1.ext g) (And.intro (G96.out.2.2.2.2.2.1.ext g) (G96.out.2.2.2.2.2.2.ext g)))))))
        clear g G96
        rw [decide_eq_true (rfl : treeP p = treeP p)]
        go_wp2_with fail
        refine (Size_any _ _ (lowP x p) G97.out.2.2.2.1 (by omega) HLH.out.1).mono ?_
        rintro e W98 ⟨rfl, g⟩
        have G98 := hid0 (And.intro (G97.out.1.trans g) (And.intro (G97.out.2.1.ext g) (And.intro (G97.out.2.2.1.ext g) (And.intro (G97.out.2.2.2.1.ext g) (And.intro (G97.out.2.2.2.2.1.ext g) (And.intro (G97.out.2.2.2.2.2.1.ext g) (G97.out.2.2.2.2.2.2.ext g)))))))
        clear g G97
        go_wp2_with fail
        refine (Size_any _ _ (highP x p) G98.out.2.2.2.2.1 (by omega) HLH.out.2).mono ?_
        rintro e W99 ⟨rfl, g⟩
        have G99 := hid0 (And.intro (G98.out.1.trans g) (And.intro (G98.out.2.1.ext g) (And.intro (G98.out.2.2.1.ext g) (And.intro (G98.out.2.2.2.1.ext g) (And.intro (G98.out.2.2.2.2.1.ext g) (And.intro (G98.out.2.2.2.2.2.1.ext g) (G98.out.2.2.2.2.2.2.ext g)))))))
        clear g G98
        have hn := split_len x p
        have hb := HLp.out
        generalize (treeP (lowP x p)).length = na at hn ⊢
        generalize (treeP (highP x p)).length = nb at hn ⊢
        generalize (treeP p).length = nc at hn hb ⊢
        have hw : wrap64 ((na : Int) + (nb : Int)) = (nc : Int) := by rw [wrap_in ⟨by omega, by omega⟩]; omega
        have hq : ((nc : Int) == (nc : Int)) = true := by simp
        clear hn hb
        go_wp2
        go_ret
        exact ⟨rfl, G99.out.1⟩

end Go.Proofs.Ytehegllgaiehfaa
