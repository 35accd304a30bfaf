/- impl.Size, impl.IsEmpty, impl.IsSingle. -/
import Derived.Test.YtoepmplhmkceoaaLoop1
namespace Go.Proofs.Ytoepmplhmkceoaa
open Go.RowKit

theorem Size_any (w : World) (v : Value) (ps : List (Int × Int)) (h : SlP w v ps) (hl : ps.length ≤ 8796093022208) (hok : KeysOk ps) :
    Calls Try.prog 20 #[v] w fun e w' => e = .returned (.int .i64 (treeP ps).length) ∧ Kept Non w w' := by
  have HT := hid (tree_any w v ps h hl hok)
  clear h hok
  go_enter Try.func20, Try.ntmps20
  go_wp2_with fail
  refine HT.out.mono ?_
  rintro e w1 ⟨b, rfl, _, g1, g2⟩
  have HG := hid (And.intro g1 g2)
  clear g1 g2
  go_wp2_with fail
  refine (TSize_any _ b 0 _ HG.out.1.at).mono ?_
  rintro e w' ⟨rfl, rfl⟩
  go_wp2
  go_ret
  exact ⟨rfl, HG.out.2⟩

theorem IsEmpty_any (w : World) (v : Value) (ps : List (Int × Int)) (h : SlP w v ps) (hl : ps.length ≤ 8796093022208) (hok : KeysOk ps) :
    Calls Try.prog 18 #[v] w fun e w' => e = .returned (.bool (treeP ps).isEmpty) ∧ Kept Non w w' := by
  have HT := hid (tree_any w v ps h hl hok)
  clear h hok
  go_enter Try.func18, Try.ntmps18
  go_wp2_with fail
  refine HT.out.mono ?_
  rintro e w1 ⟨b, rfl, _, g1, g2⟩
  have HG := hid (And.intro g1 g2)
  clear g1 g2
  go_wp2_with fail
  refine (TIsEmpty_any _ b 0 _ HG.out.1.at).mono ?_
  rintro e w' ⟨rfl, rfl⟩
  go_wp2
  go_ret
  exact ⟨rfl, HG.out.2⟩

theorem IsSingle_any (w : World) (v : Value) (ps : List (Int × Int)) (h : SlP w v ps) (hl : ps.length ≤ 8796093022208) (hok : KeysOk ps) :
    Calls Try.prog 22 #[v] w fun e w' => e = .returned (.bool (decide ((treeP ps).length = 1))) ∧ Kept Non w w' := by
  have HT := hid (tree_any w v ps h hl hok)
  clear h hok
  go_enter Try.func22, Try.ntmps22
  go_wp2_with fail
  refine HT.out.mono ?_
  rintro e w1 ⟨b, rfl, _, g1, g2⟩
  have HG := hid (And.intro g1 g2)
  clear g1 g2
  go_wp2_with fail
  refine (TIsSingle_any _ b 0 _ HG.out.1.at).mono ?_
  rintro e w' ⟨rfl, rfl⟩
  go_wp2
  go_ret
  exact ⟨rfl, HG.out.2⟩

end Go.Proofs.Ytoepmplhmkceoaa
