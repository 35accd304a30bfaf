/- The walk of FnSize. -/
import Derived.Test.YtoepmplhmkceoaaLoop2
import Derived.Test.YtoepmplhmkceoaaImpl1
namespace Go.Proofs.Ytoepmplhmkceoaa
open Go.RowKit

theorem FnSize_walk (w : World) (v : Value) (ps : List (Int × Int)) (h : SlP w v ps) (hl : ps.length ≤ 8796093021952) (hw : KeysW ps) (_hd : DataR ps) :
    Calls Try.prog 5 #[v] w fun e w' => e = .returned (.bool true) ∧ Kept Non w w' := by
  have HS := hid h
  have HW := hid hw
  clear h hw
  cases hk : keyedB ps with
  | false =>
    have HK := hid hk
    clear hk
    go_enter Try.func5, Try.ntmps5
    go_wp2_with fail
    refine (keyed_any _ _ ps HS.out (by omega)).mono ?_
    rintro e w1 ⟨rfl, g1⟩
    rw [HK.out]
    have HG := hid g1
    clear g1
    go_wp2
    go_ret
    exact ⟨rfl, HG.out⟩
  | true =>
    have HK := hid hk
    clear hk
    go_enter Try.func5, Try.ntmps5
    go_wp2_with fail
    refine (keyed_any _ _ ps HS.out (by omega)).mono ?_
    rintro e w1 ⟨rfl, g1⟩
    rw [HK.out]
    have HG := hid g1
    clear g1
    go_wp2_with fail
    refine (Size_any _ _ ps (HS.out.ext HG.out) (by omega) (HW.out.ok HK.out)).mono ?_
    rintro e w2 ⟨rfl, g2⟩
    have HG2 := hid (HG.out.trans g2)
    clear g2 HG
    go_wp2_with fail
    refine (Tree_any _ _ ps (HS.out.ext HG2.out) (by omega) HW.out).mono ?_
    rintro e w3 ⟨v3, rfl, g3, g4⟩
    have HG3 := hid (And.intro (HG2.out.trans g4) g3)
    clear g3 g4 HG2
    obtain ⟨a3, c3, rfl⟩ := (OwnP.sl HG3.out.2).form
    have HG4 := hid HG3.out.1
    clear HG3
    go_wp2
    go_ret
    exact ⟨by simp, HG4.out⟩

end Go.Proofs.Ytoepmplhmkceoaa
