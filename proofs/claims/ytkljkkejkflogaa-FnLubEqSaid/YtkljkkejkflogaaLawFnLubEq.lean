/- The walk of FnLubEq. -/
import Derived.Test.YtkljkkejkflogaaImpl2
namespace Go.Proofs.Ytkljkkejkflogaa
open Go.RowKit

theorem FnLubEq_walk (w : World) (v : Value) (ps : List (Int × Int)) (h : SlP w v ps) (hl : ps.length ≤ 8796093021952) (hw : KeysW ps) (_hd : DataR ps) (x : Int) (_hx : -2147483648 ≤ x ∧ x ≤ 2147483647) :
    Calls Try.prog 5 #[v, .int .i32 x] w fun e w' => e = .returned (.bool true) ∧ Kept Non w w' := by
  have HS := hid h
  have HW := hid hw
  clear h hw
  cases hk : keyedB ps with
  | false =>
    have HK := hid hk
    clear hk
    go_enter Try.func5, Try.ntmps5
    go_wp2_with fail
    refine (keyed_any _ _ ps HS.out (by omega)).mono ?_
    rintro e w1 ⟨rfl, g1⟩
    rw [HK.out]
    have HG := hid g1
    clear g1
    go_wp2
    go_ret
    exact ⟨rfl, HG.out⟩
  | true =>
    have HK := hid hk
    clear hk
    go_enter Try.func5, Try.ntmps5
    go_wp2_with fail
    refine (keyed_any _ _ ps HS.out (by omega)).mono ?_
    rintro e w1 ⟨rfl, g1⟩
    rw [HK.out]
    have HG := hid g1
    clear g1
    go_wp2_with fail
    refine (LubEq_any _ _ ps x (HS.out.ext HG.out) (by omega) (HW.out.ok HK.out)).mono ?_
    rintro e w2 ⟨rfl, g2⟩
    have HG2 := hid (HG.out.trans g2)
    clear g2 HG
    go_wp2_with fail
    refine (Tree_any _ _ ps (HS.out.ext HG2.out) (by omega) HW.out).mono ?_
    rintro e w3 ⟨v3, rfl, g3, g4⟩
    have HG3 := hid (And.intro (HG2.out.trans g4) g3)
    clear g3 g4 HG2
    have hlen := treeP_len HW.out ps.length
    rw [List.take_length] at hlen
    go_wp2_with fail
    refine (Above_any _ _ (treeP ps) x true (OwnP.sl HG3.out.2) (by omega)).mono ?_
    rintro e w4 ⟨rfl, g4⟩
    have HG4 := hid (HG3.out.1.trans g4)
    have hq := eql_fd (fdOf (lubP x true (treeP ps))) (fdOf (lubP x true (treeP ps)))
    have hb : ((fdOf (lubP x true (treeP ps))) == (fdOf (lubP x true (treeP ps)))) = true := by simp
    rw [hb] at hq
    generalize (fdOf (lubP x true (treeP ps))) = f at hq ⊢
    obtain ⟨f0, f1, f2⟩ := f
    simp only [fv] at hq ⊢
    clear g4 hb
    go_wp2
    go_ret
    exact ⟨rfl, HG4.out⟩

end Go.Proofs.Ytkljkkejkflogaa
