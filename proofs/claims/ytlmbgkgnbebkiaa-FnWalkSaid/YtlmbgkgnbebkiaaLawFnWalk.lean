/- The walk of FnWalk. -/
import Derived.Test.YtlmbgkgnbebkiaaWk
import Derived.Test.YtlmbgkgnbebkiaaSame
namespace Go.Proofs.Ytlmbgkgnbebkiaa
open Go.RowKit

theorem put_le (x d : Int) (xs : Ps) : (put x d xs).length ≤ xs.length + 1 := by
  have h : ∀ xs : Ps, (xs.filter fun a => decide (a.1 < x)).length + (xs.filter fun a => decide (x < a.1)).length ≤ xs.length := by
    intro xs
    induction xs with
    | nil => simp
    | cons a xs ih =>
      rcases Int.lt_trichotomy a.1 x with h | h | h
      · rw [List.filter_cons_of_pos (by simpa using h), List.filter_cons_of_neg (by simp; omega)]
        simp only [List.length_cons]; omega
      · rw [List.filter_cons_of_neg (by simp; omega), List.filter_cons_of_neg (by simp; omega)]
        simp only [List.length_cons]; omega
      · rw [List.filter_cons_of_neg (by simp; omega), List.filter_cons_of_pos (by simpa using h)]
        simp only [List.length_cons]; omega
  have := h xs
  simp only [put, List.length_append, List.length_cons]; omega
theorem treeP_le (ps : Ps) : (treeP ps).length ≤ ps.length := by
  suffices h : ∀ (ps s : Ps), (ps.foldl (fun s p => put p.1 p.2 s) s).length ≤ s.length + ps.length by simpa [treeP] using h ps []
  intro ps
  induction ps with
  | nil => simp
  | cons a ps ih =>
    intro s
    have h1 := ih (put a.1 a.2 s)
    have h2 := put_le a.1 a.2 s
    simp only [List.foldl_cons, List.length_cons]; omega
set_option maxRecDepth 100000 in
set_option maxHeartbeats 1000000 in
theorem FnWalk_walk (w : World) (vp : Value) (p : Ps) (hp : SlP w vp p) (lp : p.length ≤ 8796093021952) (wp : KeysW p) (_dp : DataR p) :
    Calls Try.prog 5 #[vp] w fun e w' => e = .returned (.bool true) ∧ Kept Non w w' := by
  have HWp := hid0 wp
  have G0 := hid0 (And.intro (Kept.refl Non w) hp)
  clear hp wp
  have hlen : (treeP p).length ≤ 4294967296 := by
    have := treeP_len HWp.out p.length
    rwa [List.take_length] at this
  cases hkp : keyedB p with
  | false =>
    have HKp := hid0 hkp
    clear hkp
    go_enter Try.func5, Try.ntmps5
    go_wp2_with fail
    refine (keyed_any _ _ p G0.out.2 (by omega)).mono ?_
    rintro e W1 ⟨rfl, g⟩
    have G1 := hid0 (And.intro (G0.out.1.trans g) (G0.out.2.ext g))
    clear g G0
    rw [HKp.out]
    go_wp2
    go_ret
    exact ⟨rfl, G1.out.1⟩
  | true =>
    have HKp := hid0 hkp
    clear hkp
    have hle : (treeP p).length ≤ p.length := treeP_le p
    obtain ⟨pa, pc0, rfl⟩ := G0.out.2.form
    go_enter Try.func5, Try.ntmps5
    go_wp2_with fail
    refine (keyed_any _ _ p G0.out.2 (by omega)).mono ?_
    rintro e W1 ⟨rfl, g⟩
    have G1 := hid0 (And.intro (G0.out.1.trans g) (G0.out.2.ext g))
    clear g G0
    rw [HKp.out]
    go_wp2_with fail
    refine (Tree_any _ _ p G1.out.2 (by omega) HWp.out).mono ?_
    rintro e W2 ⟨tv, rfl, o, g⟩
    obtain ⟨ta, tc, rfl⟩ := (OwnP.sl o).form
    have G2 := hid0 (And.intro (G1.out.1.trans g) (And.intro (G1.out.2.ext g) (OwnP.sl o)))
    clear g o G1
    go_wp2_with fail
    refine (Told_any _ _ (treeP p) G2.out.2.2 (by omega)).mono ?_
    rintro e W3 ⟨av, rfl, o, g⟩
    obtain ⟨aa, ac, rfl⟩ : ∃ a c, av = .slice a (treeP p).length c := by
      obtain ⟨a, c, e⟩ := (OwnF.sl o).form
      exact ⟨a, c, by rw [e, List.length_map]⟩
    have hac := Own.cap o
    have G3 := hid0 (And.intro (G2.out.1.trans g) (And.intro (G2.out.2.1.ext g) (And.intro (G2.out.2.2.ext g) (OwnF.sl o))))
    clear g o G2
    go_wp2_with fail
    refine (Walk_up _ _ p (p.length + 1) G3.out.2.1 (by omega) (HWp.out.ok HKp.out) (by omega)).mono ?_
    rintro e W4 ⟨ov, rfl, o, g⟩
    have G4 := hid0 (And.intro (G3.out.1.trans g) (And.intro (G3.out.2.1.ext g) (And.intro (G3.out.2.2.1.ext g) (And.intro (G3.out.2.2.2.ext g) (OwnF.sl o)))))
    clear g o G3
    go_wp2_with fail
    refine (SameFound_any _ _ _ ((treeP p).map tf) ((treeP p).map tf) G4.out.2.2.2.2 G4.out.2.2.2.1 (by rw [List.length_map]; omega)).mono ?_
    rintro e W5 ⟨rfl, g⟩
    have G5 := hid0 (And.intro (G4.out.1.trans g) (And.intro (G4.out.2.1.ext g) (And.intro (G4.out.2.2.1.ext g) (And.intro (G4.out.2.2.2.1.ext g) (G4.out.2.2.2.2.ext g)))))
    clear g G4
    rw [decide_eq_true (rfl : (treeP p).map tf = (treeP p).map tf)]
    go_wp2_with fail
    refine (Walk_down _ _ p (p.length + 1) G5.out.2.1 (by omega) (HWp.out.ok HKp.out) (by omega)).mono ?_
    rintro e W6 ⟨ov2, rfl, o, g⟩
    have G6 := hid0 (And.intro (G5.out.1.trans g) (And.intro (G5.out.2.1.ext g) (And.intro (G5.out.2.2.1.ext g) (And.intro (G5.out.2.2.2.1.ext g) (And.intro (G5.out.2.2.2.2.ext g) (OwnF.sl o))))))
    clear g o G5
    go_wp2_with fail
    refine (Turned_any _ _ ((treeP p).map tf) G6.out.2.2.2.1 (by rw [List.length_map]; omega)).mono ?_
    rintro e W7 ⟨tv2, rfl, o, g⟩
    have G7 := hid0 (And.intro (G6.out.1.trans g) (And.intro (G6.out.2.1.ext g) (And.intro (G6.out.2.2.1.ext g) (And.intro (G6.out.2.2.2.1.ext g) (And.intro (G6.out.2.2.2.2.1.ext g) (And.intro (G6.out.2.2.2.2.2.ext g) (OwnF.sl o)))))))
    clear g o G6
    go_wp2_with fail
    refine (SameFound_any _ _ _ ((treeP p).reverse.map tf) ((treeP p).map tf).reverse G7.out.2.2.2.2.2.1 G7.out.2.2.2.2.2.2 (by rw [List.length_map, List.length_reverse]; omega)).mono ?_
    rintro e W8 ⟨rfl, g⟩
    have G8 := hid0 (And.intro (G7.out.1.trans g) (And.intro (G7.out.2.1.ext g) (And.intro (G7.out.2.2.1.ext g) (And.intro (G7.out.2.2.2.1.ext g) (And.intro (G7.out.2.2.2.2.1.ext g) (And.intro (G7.out.2.2.2.2.2.1.ext g) (G7.out.2.2.2.2.2.2.ext g)))))))
    clear g G7
    rw [decide_eq_true List.map_reverse]
    go_wp2
    go_ret
    exact ⟨rfl, G8.out.1⟩

end Go.Proofs.Ytlmbgkgnbebkiaa
