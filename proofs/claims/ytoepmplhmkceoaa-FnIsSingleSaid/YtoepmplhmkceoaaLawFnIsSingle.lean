/- The walk of FnIsSingle. -/
import Derived.Test.YtoepmplhmkceoaaLoop2
import Derived.Test.YtoepmplhmkceoaaImpl1
namespace Go.Proofs.Ytoepmplhmkceoaa
open Go.RowKit

theorem FnIsSingle_walk (w : World) (v : Value) (ps : List (Int × Int)) (h : SlP w v ps) (hl : ps.length ≤ 8796093021952) (hw : KeysW ps) (_hd : DataR ps) :
    Calls Try.prog 6 #[v] w fun e w' => e = .returned (.bool true) ∧ Kept Non w w' := by
  have HS := hid h
  have HW := hid hw
  clear h hw
  cases hk : keyedB ps with
  | false =>
    have HK := hid hk
    clear hk
    go_enter Try.func6, Try.ntmps6
    go_wp2_with fail
    refine (keyed_any _ _ ps HS.out (by omega)).mono ?_
    rintro e w1 ⟨rfl, g1⟩
    rw [HK.out]
    have HG := hid g1
    clear g1
    go_wp2
    go_ret
    exact ⟨rfl, HG.out⟩
  | true =>
    have HK := hid hk
    clear hk
    go_enter Try.func6, Try.ntmps6
    go_wp2_with fail
    refine (keyed_any _ _ ps HS.out (by omega)).mono ?_
    rintro e w1 ⟨rfl, g1⟩
    rw [HK.out]
    have HG := hid g1
    clear g1
    go_wp2_with fail
    refine (IsSingle_any _ _ ps (HS.out.ext HG.out) (by omega) (HW.out.ok HK.out)).mono ?_
    rintro e w2 ⟨rfl, g2⟩
    have HG2 := hid (HG.out.trans g2)
    clear g2 HG
    go_wp2_with fail
    refine (Tree_any _ _ ps (HS.out.ext HG2.out) (by omega) HW.out).mono ?_
    rintro e w3 ⟨v3, rfl, g3, g4⟩
    have HG3 := hid (And.intro (HG2.out.trans g4) g3)
    clear g3 g4 HG2
    obtain ⟨a3, c3, rfl⟩ := (OwnP.sl HG3.out.2).form
    have HG4 := hid HG3.out.1
    clear HG3
    have hq : (decide ((treeP ps).length = 1) == (((treeP ps).length : Int) == 1)) = true := by
      by_cases h1 : (treeP ps).length = 1
      · simp [h1]
      · have : (((treeP ps).length : Int) == 1) = false := by simp; omega
        rw [this]; simp [h1]
    generalize decide ((treeP ps).length = 1) = c at hq ⊢
    generalize (treeP ps).length = n at hq ⊢
    go_wp2
    go_ret
    exact ⟨rfl, HG4.out⟩

end Go.Proofs.Ytoepmplhmkceoaa
