/- The walk of FnIterate. -/
import Derived.Test.YtlmbgkgnbebkiaaItI
import Derived.Test.YtlmbgkgnbebkiaaSame
namespace Go.Proofs.Ytlmbgkgnbebkiaa
open Go.RowKit

set_option maxRecDepth 100000 in
set_option maxHeartbeats 1000000 in
theorem FnIterate_walk (w : World) (vp : Value) (p : Ps) (hp : SlP w vp p) (lp : p.length ≤ 8796093021952) (wp : KeysW p) (_dp : DataR p) (most : Int) (rmost : -9223372036854775808 ≤ most ∧ most ≤ 9223372036854775807) :
    Calls Try.prog 4 #[vp, .int .i64 most] w fun e w' => e = .returned (.bool true) ∧ Kept Non w w' := by
  have HWp := hid0 wp
  have G0 := hid0 (And.intro (Kept.refl Non w) hp)
  clear hp wp
  have hlen : (treeP p).length ≤ 4294967296 := by
    have := treeP_len HWp.out p.length
    rwa [List.take_length] at this
  cases hkp : keyedB p with
  | false =>
    have HKp := hid0 hkp
    clear hkp
    go_enter Try.func4, Try.ntmps4
    go_wp2_with fail
    refine (keyed_any _ _ p G0.out.2 (by omega)).mono ?_
    rintro e W1 ⟨rfl, g⟩
    have G1 := hid0 (And.intro (G0.out.1.trans g) (G0.out.2.ext g))
    clear g G0
    rw [HKp.out]
    go_wp2
    go_ret
    exact ⟨rfl, G1.out.1⟩
  | true =>
    have HKp := hid0 hkp
    clear hkp
    by_cases hm : most < ((treeP p).length : Int)
    · by_cases h0 : 0 < most
      · obtain ⟨n, rfl⟩ : ∃ n : Nat, most = n := ⟨most.toNat, by omega⟩
        have hn : n < (treeP p).length := by omega
        have hb : ((n : Int) == ((treeP p).length : Int)) = false := by simp; omega
        have HD : Hid (((treeP p).drop n).isEmpty = false) := by
          show _ = _
          rw [List.isEmpty_eq_false_iff]
          intro e
          rw [List.drop_eq_nil_iff] at e
          omega
        go_enter Try.func4, Try.ntmps4
        go_wp2_with fail
        refine (keyed_any _ _ p G0.out.2 (by omega)).mono ?_
        rintro e W1 ⟨rfl, g⟩
        have G1 := hid0 (And.intro (G0.out.1.trans g) (G0.out.2.ext g))
        clear g G0
        rw [HKp.out]
        go_wp2_with fail
        refine (Tree_any _ _ p G1.out.2 (by omega) HWp.out).mono ?_
        rintro e W2 ⟨tv, rfl, o, g⟩
        obtain ⟨ta, tc, rfl⟩ := (OwnP.sl o).form
        have G2 := hid0 (And.intro (G1.out.1.trans g) (And.intro (G1.out.2.ext g) (OwnP.sl o)))
        clear g o G1
        go_wp2_with fail
        refine (Told_any _ _ (treeP p) G2.out.2.2 (by omega)).mono ?_
        rintro e W3 ⟨av, rfl, o, g⟩
        obtain ⟨aa, ac, rfl⟩ : ∃ a c, av = .slice a (treeP p).length c := by
          obtain ⟨a, c, e⟩ := (OwnF.sl o).form
          exact ⟨a, c, by rw [e, List.length_map]⟩
        have hac := Own.cap o
        have G3 := hid0 (And.intro (G2.out.1.trans g) (And.intro (G2.out.2.1.ext g) (And.intro (G2.out.2.2.ext g) (OwnF.sl o))))
        clear g o G2
        go_wp2_with fail
        refine (Iterate_any _ _ p n rmost G3.out.2.1 (by omega) (HWp.out.ok HKp.out)).mono ?_
        rintro e W4 ⟨ov, rfl, o, g⟩
        have G4 := hid0 (And.intro (G3.out.1.trans g) (And.intro (G3.out.2.1.ext g) (And.intro (G3.out.2.2.1.ext g) (And.intro (G3.out.2.2.2.ext g) (OwnF.sl o)))))
        clear g o G3
        rw [Int.toNat_natCast, HD.out]
        rw [Int.toNat_natCast] at G4
        go_wp2_with fail
        refine (SameFound_any _ _ _ (((treeP p).take n).map tf) (((treeP p).map tf).take n) G4.out.2.2.2.2 (G4.out.2.2.2.1.take n (by rw [List.length_map]; omega)) (by rw [List.length_map, List.length_take]; omega)).mono ?_
        rintro e W5 ⟨rfl, g⟩
        have G5 := hid0 (And.intro (G4.out.1.trans g) (And.intro (G4.out.2.1.ext g) (And.intro (G4.out.2.2.1.ext g) (And.intro (G4.out.2.2.2.1.ext g) (G4.out.2.2.2.2.ext g)))))
        clear g G4
        rw [decide_eq_true List.map_take]
        go_wp2
        go_ret
        exact ⟨rfl, G5.out.1⟩
      · obtain ⟨R, hR⟩ : ∃ R, (treeP p).isEmpty = R := ⟨_, rfl⟩
        have hb : ((0 : Int) == ((treeP p).length : Int)) = R := by
          rw [← hR]
          cases treeP p with
          | nil => rfl
          | cons a b => simp; omega
        have HD := hid0 hR
        clear hR
        have hz : most.toNat = 0 := by omega
        have HZ := hid0 hz
        clear hz
        go_enter Try.func4, Try.ntmps4
        go_wp2_with fail
        refine (keyed_any _ _ p G0.out.2 (by omega)).mono ?_
        rintro e W1 ⟨rfl, g⟩
        have G1 := hid0 (And.intro (G0.out.1.trans g) (G0.out.2.ext g))
        clear g G0
        rw [HKp.out]
        go_wp2_with fail
        refine (Tree_any _ _ p G1.out.2 (by omega) HWp.out).mono ?_
        rintro e W2 ⟨tv, rfl, o, g⟩
        obtain ⟨ta, tc, rfl⟩ := (OwnP.sl o).form
        have G2 := hid0 (And.intro (G1.out.1.trans g) (And.intro (G1.out.2.ext g) (OwnP.sl o)))
        clear g o G1
        go_wp2_with fail
        refine (Told_any _ _ (treeP p) G2.out.2.2 (by omega)).mono ?_
        rintro e W3 ⟨av, rfl, o, g⟩
        obtain ⟨aa, ac, rfl⟩ : ∃ a c, av = .slice a (treeP p).length c := by
          obtain ⟨a, c, e⟩ := (OwnF.sl o).form
          exact ⟨a, c, by rw [e, List.length_map]⟩
        have hac := Own.cap o
        have G3 := hid0 (And.intro (G2.out.1.trans g) (And.intro (G2.out.2.1.ext g) (And.intro (G2.out.2.2.ext g) (OwnF.sl o))))
        clear g o G2
        go_wp2_with fail
        refine (Iterate_any _ _ p most rmost G3.out.2.1 (by omega) (HWp.out.ok HKp.out)).mono ?_
        rintro e W4 ⟨ov, rfl, o, g⟩
        have G4 := hid0 (And.intro (G3.out.1.trans g) (And.intro (G3.out.2.1.ext g) (And.intro (G3.out.2.2.1.ext g) (And.intro (G3.out.2.2.2.ext g) (OwnF.sl o)))))
        clear g o G3
        rw [HZ.out, List.drop_zero, HD.out]
        rw [HZ.out, List.take_zero] at G4
        go_wp2_with fail
        refine (SameFound_any _ _ _ (([] : Ps).map tf) (((treeP p).map tf).take 0) G4.out.2.2.2.2 (G4.out.2.2.2.1.take 0 (Nat.zero_le _)) (by simp)).mono ?_
        rintro e W5 ⟨rfl, g⟩
        have G5 := hid0 (And.intro (G4.out.1.trans g) (And.intro (G4.out.2.1.ext g) (And.intro (G4.out.2.2.1.ext g) (And.intro (G4.out.2.2.2.1.ext g) (G4.out.2.2.2.2.ext g)))))
        clear g G4
        rw [decide_eq_true (by simp)]
        cases R
        · go_wp2
          go_ret
          exact ⟨rfl, G5.out.1⟩
        · go_wp2
          go_ret
          exact ⟨rfl, G5.out.1⟩
    · have HN : Hid ((treeP p).length ≤ most.toNat) := by show _ ≤ _; omega
      go_enter Try.func4, Try.ntmps4
      go_wp2_with fail
      refine (keyed_any _ _ p G0.out.2 (by omega)).mono ?_
      rintro e W1 ⟨rfl, g⟩
      have G1 := hid0 (And.intro (G0.out.1.trans g) (G0.out.2.ext g))
      clear g G0
      rw [HKp.out]
      go_wp2_with fail
      refine (Tree_any _ _ p G1.out.2 (by omega) HWp.out).mono ?_
      rintro e W2 ⟨tv, rfl, o, g⟩
      obtain ⟨ta, tc, rfl⟩ := (OwnP.sl o).form
      have G2 := hid0 (And.intro (G1.out.1.trans g) (And.intro (G1.out.2.ext g) (OwnP.sl o)))
      clear g o G1
      go_wp2_with fail
      refine (Told_any _ _ (treeP p) G2.out.2.2 (by omega)).mono ?_
      rintro e W3 ⟨av, rfl, o, g⟩
      obtain ⟨aa, ac, rfl⟩ : ∃ a c, av = .slice a (treeP p).length c := by
        obtain ⟨a, c, e⟩ := (OwnF.sl o).form
        exact ⟨a, c, by rw [e, List.length_map]⟩
      have hac := Own.cap o
      have G3 := hid0 (And.intro (G2.out.1.trans g) (And.intro (G2.out.2.1.ext g) (And.intro (G2.out.2.2.ext g) (OwnF.sl o))))
      clear g o G2
      go_wp2_with fail
      refine (Iterate_any _ _ p most rmost G3.out.2.1 (by omega) (HWp.out.ok HKp.out)).mono ?_
      rintro e W4 ⟨ov, rfl, o, g⟩
      have G4 := hid0 (And.intro (G3.out.1.trans g) (And.intro (G3.out.2.1.ext g) (And.intro (G3.out.2.2.1.ext g) (And.intro (G3.out.2.2.2.ext g) (OwnF.sl o)))))
      clear g o G3
      rw [List.drop_of_length_le HN.out]
      rw [List.take_of_length_le HN.out] at G4
      simp only [List.isEmpty_nil]
      go_wp2_with fail
      refine (SameFound_any _ _ _ ((treeP p).map tf) ((treeP p).map tf) G4.out.2.2.2.2 G4.out.2.2.2.1 (by rw [List.length_map]; omega)).mono ?_
      rintro e W5 ⟨rfl, g⟩
      have G5 := hid0 (And.intro (G4.out.1.trans g) (And.intro (G4.out.2.1.ext g) (And.intro (G4.out.2.2.1.ext g) (And.intro (G4.out.2.2.2.1.ext g) (G4.out.2.2.2.2.ext g)))))
      clear g G4
      rw [decide_eq_true (rfl : (treeP p).map tf = (treeP p).map tf)]
      go_wp2
      go_ret
      exact ⟨rfl, G5.out.1⟩

end Go.Proofs.Ytlmbgkgnbebkiaa
