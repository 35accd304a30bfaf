/- impl.Size, impl.IsEmpty, impl.IsSingle. -/
import Derived.Test.YtehegllgaiehfaaLoop1
namespace Go.Proofs.Ytehegllgaiehfaa
open Go.RowKit

theorem Size_any (w : World) (v : Value) (ps : List (Int × Int)) (h : SlP w v ps) (hl : ps.length ≤ 8796093022208) (hok : KeysOk ps) :
    Calls Try.prog 17 #[v] w fun e w' => e = .returned (.int .i64 (treeP ps).length) ∧ Kept Non w w' := by
  have HT := hid (tree_any w v ps h hl hok)
  clear h hok
  go_enter Try.func17, Try.ntmps17
  go_wp2_with fail
  refine HT.out.mono ?_
  rintro e w1 ⟨b, rfl, _, g1, g2⟩
  have HG := hid (And.intro g1 g2)
  clear g1 g2
  go_wp2_with fail
  refine (TSize_any _ b 0 _ HG.out.1.at).mono ?_
  rintro e w' ⟨rfl, rfl⟩
  go_wp2
  go_ret
  exact ⟨rfl, HG.out.2⟩



end Go.Proofs.Ytehegllgaiehfaa
