/- The walk of FnIterateOn. -/
import Derived.Test.YtlmbgkgnbebkiaaIon
import Derived.Test.YtlmbgkgnbebkiaaIHist
namespace Go.Proofs.Ytlmbgkgnbebkiaa
open Go.RowKit

set_option maxRecDepth 100000 in
set_option maxHeartbeats 1000000 in
theorem FnIterateOn_walk (w : World) (vp : Value) (p : Ps) (hp : SlP w vp p) (lp : p.length ≤ 8796093021952) (wp : KeysW p) (_dp : DataR p) (vax : Value) (ax : List Ac) (hax : SlA w vax ax) (lax : ax.length ≤ 1599289640400) (wax : ActsW ax) (_dax : CapOk vax) :
    Calls Try.prog 13 #[vp, vax] w fun e w' => e = .returned (.bool true) ∧ Kept Non w w' := by
  obtain ⟨xa, xc, rfl⟩ := hax.form
  have HWp := hid0 wp
  have HWx := hid0 wax
  have G0 := hid0 (And.intro (Kept.refl Non w) (And.intro hp hax))
  have hlen : (treeP p).length ≤ 4294967296 := by
    have := treeP_len wp p.length
    rwa [List.take_length] at this
  have HGV : Hid (GoodV (treeP p)) := by
    have := treeP_wide wp p.length
    rw [List.take_length] at this
    exact this
  clear hp wp hax wax
  cases hkp : keyedB p with
  | false =>
    have HKp := hid0 hkp
    clear hkp
    go_enter Try.func13, Try.ntmps13
    go_wp2_with fail
    refine (keyed_any _ _ p G0.out.2.1 (by omega)).mono ?_
    rintro e W1 ⟨rfl, g⟩
    have G1 := hid0 (And.intro (G0.out.1.trans g) (And.intro (G0.out.2.1.ext g) (G0.out.2.2.ext g)))
    clear g G0
    rw [HKp.out]
    go_wp2
    go_ret
    exact ⟨rfl, G1.out.1⟩
  | true =>
    have HKp := hid0 hkp
    clear hkp
    go_enter Try.func13, Try.ntmps13
    go_wp2_with fail
    refine (keyed_any _ _ p G0.out.2.1 (by omega)).mono ?_
    rintro e W1 ⟨rfl, g⟩
    have G1 := hid0 (And.intro (G0.out.1.trans g) (And.intro (G0.out.2.1.ext g) (G0.out.2.2.ext g)))
    clear g G0
    rw [HKp.out]
    go_wp2_with fail
    refine (played_any _ _ ax G1.out.2.2 lax HWx.out).mono ?_
    rintro e W2 ⟨bb, rfl, g, hb⟩
    have HB := hid0 hb
    have G2 := hid0 (And.intro (G1.out.1.trans g) (And.intro (G1.out.2.1.ext g) (G1.out.2.2.ext g)))
    clear g hb G1
    cases bb with
    | false =>
      go_wp2
      go_ret
      exact ⟨rfl, G2.out.1⟩
    | true =>
      have HPL := hid0 (HB.out rfl)
      have HKY := hid0 (HPL.out.ok HWx.out)
      go_wp2_with fail
      refine (Tree_any _ _ p G2.out.2.1 (by omega) HWp.out).mono ?_
      rintro e W3 ⟨tv, rfl, o, g⟩
      obtain ⟨ta, tc, rfl⟩ := (OwnP.sl o).form
      have G3 := hid0 (And.intro (G2.out.1.trans g) (And.intro (G2.out.2.1.ext g) (And.intro (G2.out.2.2.ext g) (OwnP.sl o))))
      clear g o G2
      go_wp2
      go_loopg [6, 23] ((treeP p).length) (fun n s i wr => ∃ k : Nat, k + n = (treeP p).length ∧ i = .int .i64 k ∧ Kept Non W3 wr ∧ SlP wr s (itOn ax (treeP p) k))
      case atStart => exact ⟨0, by simp, rfl, Kept.refl _ _, G3.out.2.2.2⟩
      case round =>
        obtain ⟨k, hk, rfl, hK, hS⟩ := hrel
        have HK := hid0 (And.intro hK hS)
        by_cases hlt : k < (treeP p).length
        · by_cases h0 : ax.length = 0
          · have hz : ¬ (0 < (ax.length : Int)) := by omega
            have H0 := hid0 h0
            clear hK hS h0
            go_wp2
            go_roundg (gk - 1)
            case measure => omega
            case rel => exact ⟨k + 1, by omega, by go_num, HK.out.1, by rw [itOn, if_pos H0.out]; exact HK.out.2⟩
          · have hz : 0 < ax.length := by omega
            have hmod : k % ax.length < ax.length := Nat.mod_lt _ hz
            have hm : (k : Int).tmod (ax.length : Int) = ((k % ax.length : Nat) : Int) := rfl
            obtain ⟨j, hj⟩ : ∃ j, j = k % ax.length := ⟨_, rfl⟩
            rw [← hj] at hm hmod
            have HP := hid0 hj
            have hnz : (ax.length : Int) ≠ 0 := by omega
            have hi0 : (0 : Int) ≤ (j : Int) := Int.natCast_nonneg _
            have hi1 : (j : Int) < (ax.length : Int) := by omega
            obtain ⟨b5, offa, rfl, hb5, ca⟩ := (G3.out.2.2.1.ext hK).act (Kept.refl _ _) j hmod
            obtain ⟨c0, c1, c2, c3, c4, c5, c6, c7, c8, c9, c10⟩ := ca
            obtain ⟨a, ha⟩ : ∃ a, a = ax[j] := ⟨_, rfl⟩
            rw [← ha] at c0 c1 c2 c3 c4 c5 c6 c7 c8 c9 c10
            have HA := hid0 ha
            have H0 := hid0 h0
            clear ha hj h0 hK hS
            go_wp2_with fail
            refine (Update_any _ _ _ a HK.out.2 (itOn_good HWx.out HGV.out k).len).mono ?_
            rintro e w4 ⟨v4, rfl, o4, g4⟩
            have H4 := hid0 (And.intro (OwnP.sl o4) g4)
            have hst : itOn ax (treeP p) (k + 1) = (upd (itOn ax (treeP p) k) a).1 := by
              rw [itOn, if_neg H0.out, ← HP.out, getD_mod j hmod, ← HA.out]
            have HST := hid0 hst
            generalize (upd (itOn ax (treeP p) k) a).2 = fr
            obtain ⟨fr0, fr1, fr2⟩ := fr
            simp only [fv]
            clear o4 g4 hst c0 c1 c2 c3 c4 c5 c6 c7 c8 c9 c10
            go_wp2
            go_roundg (gk - 1)
            case measure => omega
            case rel => exact ⟨k + 1, by omega, by go_num, HK.out.1.trans H4.out.2, by rw [HST.out]; exact H4.out.1⟩
        · have hke : k = (treeP p).length := by omega
          have HG9 := hid0 (And.intro (G3.out.1.trans hK) (And.intro (G3.out.2.1.ext hK) (And.intro (G3.out.2.2.1.ext hK) (And.intro (G3.out.2.2.2.ext hK) (hke ▸ hS)))))
          clear hK hS HK hke
          have G90 := HG9
          go_wp2_with fail
          refine (IterateOn_any _ _ _ p ax G90.out.2.1 (by omega) (HWp.out.ok HKp.out) G90.out.2.2.1 lax HKY.out).mono ?_
          rintro e W91 ⟨ov, ev, rfl, s1, s2, g⟩
          have G91 := hid0 (And.intro (G90.out.1.trans g) (And.intro (G90.out.2.1.ext g) (And.intro (G90.out.2.2.1.ext g) (And.intro (G90.out.2.2.2.1.ext g) (And.intro (G90.out.2.2.2.2.ext g) (And.intro (s1) (s2)))))))
          clear g s1 s2 G90
          go_wp2_with fail
          refine (Told_any _ _ (treeP p) G91.out.2.2.2.1 (by omega)).mono ?_
          rintro e W92 ⟨av, rfl, o, g⟩
          have G92 := hid0 (And.intro (G91.out.1.trans g) (And.intro (G91.out.2.1.ext g) (And.intro (G91.out.2.2.1.ext g) (And.intro (G91.out.2.2.2.1.ext g) (And.intro (G91.out.2.2.2.2.1.ext g) (And.intro (G91.out.2.2.2.2.2.1.ext g) (And.intro (G91.out.2.2.2.2.2.2.ext g) (OwnF.sl o))))))))
          clear g o G91
          go_wp2_with fail
          refine (SameFound_any _ _ _ ((treeP p).map tf) ((treeP p).map tf) G92.out.2.2.2.2.2.1 G92.out.2.2.2.2.2.2.2 (by rw [List.length_map]; omega)).mono ?_
          rintro e W93 ⟨rfl, g⟩
          have G93 := hid0 (And.intro (G92.out.1.trans g) (And.intro (G92.out.2.1.ext g) (And.intro (G92.out.2.2.1.ext g) (And.intro (G92.out.2.2.2.1.ext g) (And.intro (G92.out.2.2.2.2.1.ext g) (And.intro (G92.out.2.2.2.2.2.1.ext g) (And.intro (G92.out.2.2.2.2.2.2.1.ext g) (G92.out.2.2.2.2.2.2.2.ext g))))))))
          clear g G92
          rw [decide_eq_true (rfl : (treeP p).map tf = (treeP p).map tf)]
          go_wp2_with fail
          refine (Same_any _ _ _ (itOn ax (treeP p) (treeP p).length) (itOn ax (treeP p) (treeP p).length) G93.out.2.2.2.2.2.2.1 G93.out.2.2.2.2.1 (by have := (itOn_good HWx.out HGV.out (treeP p).length).len; omega)).mono ?_
          rintro e W94 ⟨rfl, g⟩
          have G94 := hid0 (And.intro (G93.out.1.trans g) (And.intro (G93.out.2.1.ext g) (And.intro (G93.out.2.2.1.ext g) (And.intro (G93.out.2.2.2.1.ext g) (And.intro (G93.out.2.2.2.2.1.ext g) (And.intro (G93.out.2.2.2.2.2.1.ext g) (And.intro (G93.out.2.2.2.2.2.2.1.ext g) (G93.out.2.2.2.2.2.2.2.ext g))))))))
          clear g G93
          rw [decide_eq_true (rfl : itOn ax (treeP p) (treeP p).length = itOn ax (treeP p) (treeP p).length)]
          go_wp2
          go_ret
          exact ⟨rfl, G94.out.1⟩

end Go.Proofs.Ytlmbgkgnbebkiaa
