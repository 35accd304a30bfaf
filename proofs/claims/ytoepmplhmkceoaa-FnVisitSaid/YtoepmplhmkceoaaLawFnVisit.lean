/- The walk of FnVisit. -/
import Derived.Test.YtoepmplhmkceoaaSame
namespace Go.Proofs.Ytoepmplhmkceoaa
open Go.RowKit

theorem FnVisit_walk (w : World) (v : Value) (ps : List (Int × Int)) (h : SlP w v ps) (hl : ps.length ≤ 8796093021952) (hw : KeysW ps) (_hd : DataR ps) :
    Calls Try.prog 7 #[v] w fun e w' => e = .returned (.bool true) ∧ Kept Non w w' := by
  have HS := hid h
  have HW := hid hw
  clear h hw
  cases hk : keyedB ps with
  | false =>
    have HK := hid hk
    clear hk
    go_enter Try.func7, Try.ntmps7
    go_wp2_with fail
    refine (keyed_any _ _ ps HS.out (by omega)).mono ?_
    rintro e w1 ⟨rfl, g1⟩
    rw [HK.out]
    have HG := hid g1
    clear g1
    go_wp2
    go_ret
    exact ⟨rfl, HG.out⟩
  | true =>
    have HK := hid hk
    clear hk
    go_enter Try.func7, Try.ntmps7
    go_wp2_with fail
    refine (keyed_any _ _ ps HS.out (by omega)).mono ?_
    rintro e w1 ⟨rfl, g1⟩
    rw [HK.out]
    have HG := hid g1
    clear g1
    go_wp2_with fail
    refine (Visit_any _ _ ps (HS.out.ext HG.out) (by omega) (HW.out.ok HK.out)).mono ?_
    rintro e w2 ⟨v2, rfl, g1, g2⟩
    have HV2 := hid g1
    have HG2 := hid (HG.out.trans g2)
    clear g1 g2 HG
    go_wp2_with fail
    refine (Tree_any _ _ ps (HS.out.ext HG2.out) (by omega) HW.out).mono ?_
    rintro e w3 ⟨v3, rfl, g3, g4⟩
    have HG3 := hid (And.intro (HG2.out.trans g4) (And.intro g3 g4))
    clear g3 g4 HG2
    have hlen := treeP_len HW.out ps.length
    rw [List.take_length] at hlen
    go_wp2_with fail
    refine (Same_any _ _ _ (treeP ps) (treeP ps) (OwnP.sl (HV2.out.ext' HG3.out.2.2)) (OwnP.sl HG3.out.2.1) (by omega)).mono ?_
    rintro e w4 ⟨rfl, g4⟩
    rw [decide_eq_true (rfl : treeP ps = treeP ps)]
    have HG4 := hid (HG3.out.1.trans g4)
    clear g4
    go_wp2
    go_ret
    exact ⟨rfl, HG4.out⟩

end Go.Proofs.Ytoepmplhmkceoaa
