/-
  No cell of these rows narrows 'for every input' (looked for: loops, veiled, ifaces, maps, wideKeys, modest, calm, conditions, laid).
  DERIVED. THE GIVEN ROWS OF THIS SEAT. 12 by the template 'for every input the law returns true; each argument reads behind the call as it read before'; 0 by the template 'total and deterministic' (their statements: YtnpeieijadiobaaTotals.lean).
  GIVEN WITH THE SEED: the statements are not yours to turn. If you find one false, say at which input.
  Laid BY PROGRAM, IN A SANDBOX (cutbox-rows.mjs): the forced cells as the released guide's own fill.sh prints them over the translation 9a698b336c35bf61… (all of the seat's roots in one cut). By AI agents, Wed Nov 11 2026. No macro, syntax, notation, axiom, sorry.
-/
import Derived.Test.YtnpeieijadiobaaChecked
import GoSem.Claim
import GoSem.ClaimJoined
import GoSem.ClaimMapViews
import Derived.JoinedTies
import Derived.KernelRfl
namespace Go.Proofs.Ytnpeieijadiobaa
/- THE CELL 'sum', in the pinned program and in every row, IS THE sha256 OF THE DUMP (.gsa) THAT YtnpeieijadiobaaProg.lean LOADS. Nothing in Lean hashes anything: it is a label: what it is worth is what the hold of that sum in a sandbox is worth. -/
noncomputable def Try.pinned : Pinned := { name := "ytnpeieijadiobaa", sum := "9a698b336c35bf612108de83e51ca2ec70203296a7d451a3b947dac836ffdc4b", checked := Try.checked }
namespace Rows
def none {H : Type} : Left H := { results := [], args := [] }

/-- 'laws.FnNeighbours': WHATEVER THE INPUT: true; the input reads as it did. -/
def fnNeighboursSpec : ChangeSpec := { name := "fnNeighbours", fn := fun _ => fun
  | [d1, d2] => { results := [.lit (.bool true)], args := [d1, d2] }
  | _ => none }
def fnNeighboursRow : OpenClaim := { program := "ytnpeieijadiobaa", sum := "9a698b336c35bf612108de83e51ca2ec70203296a7d451a3b947dac836ffdc4b", func := "loop.example/pub-g01441/laws.FnNeighbours", spec := "fnNeighbours", recurses := true, apart := false }
def FnNeighboursSaid : Prop := fnNeighboursRow.holds Try.pinned (OpenSpec.ofChange fnNeighboursSpec)

/-- ITS FALSE NEIGHBOUR: 'it returns false'. Refute it at one input. -/
def fnNeighboursWrong : ChangeSpec := { name := "fnNeighbours", fn := fun _ => fun
  | [d1, d2] => { results := [.lit (.bool false)], args := [d1, d2] }
  | _ => none }
def FnNeighboursWrongFalsely : Prop := fnNeighboursRow.holds Try.pinned (OpenSpec.ofChange fnNeighboursWrong)

/-- 'laws.FnDelete': WHATEVER THE INPUT: true; the input reads as it did. -/
def fnDeleteSpec : ChangeSpec := { name := "fnDelete", fn := fun _ => fun
  | [d1, d2] => { results := [.lit (.bool true)], args := [d1, d2] }
  | _ => none }
def fnDeleteRow : OpenClaim := { program := "ytnpeieijadiobaa", sum := "9a698b336c35bf612108de83e51ca2ec70203296a7d451a3b947dac836ffdc4b", func := "loop.example/pub-g01441/laws.FnDelete", spec := "fnDelete", unfollowed := true, recurses := true, apart := false }
def FnDeleteSaid : Prop := fnDeleteRow.holds Try.pinned (OpenSpec.ofChange fnDeleteSpec)

/-- ITS FALSE NEIGHBOUR: 'it returns false'. Refute it at one input. -/
def fnDeleteWrong : ChangeSpec := { name := "fnDelete", fn := fun _ => fun
  | [d1, d2] => { results := [.lit (.bool false)], args := [d1, d2] }
  | _ => none }
def FnDeleteWrongFalsely : Prop := fnDeleteRow.holds Try.pinned (OpenSpec.ofChange fnDeleteWrong)

/-- 'laws.FnCopies': WHATEVER THE INPUT: true; the input reads as it did. -/
def fnCopiesSpec : ChangeSpec := { name := "fnCopies", fn := fun _ => fun
  | [d] => { results := [.lit (.bool true)], args := [d] }
  | _ => none }
def fnCopiesRow : OpenClaim := { program := "ytnpeieijadiobaa", sum := "9a698b336c35bf612108de83e51ca2ec70203296a7d451a3b947dac836ffdc4b", func := "loop.example/pub-g01441/laws.FnCopies", spec := "fnCopies", unfollowed := true, recurses := true, apart := false }
def FnCopiesSaid : Prop := fnCopiesRow.holds Try.pinned (OpenSpec.ofChange fnCopiesSpec)

/-- ITS FALSE NEIGHBOUR: 'it returns false'. Refute it at one input. -/
def fnCopiesWrong : ChangeSpec := { name := "fnCopies", fn := fun _ => fun
  | [d] => { results := [.lit (.bool false)], args := [d] }
  | _ => none }
def FnCopiesWrongFalsely : Prop := fnCopiesRow.holds Try.pinned (OpenSpec.ofChange fnCopiesWrong)

/-- 'laws.FnInPlace': WHATEVER THE INPUT: true; the input reads as it did. -/
def fnInPlaceSpec : ChangeSpec := { name := "fnInPlace", fn := fun _ => fun
  | [d] => { results := [.lit (.bool true)], args := [d] }
  | _ => none }
def fnInPlaceRow : OpenClaim := { program := "ytnpeieijadiobaa", sum := "9a698b336c35bf612108de83e51ca2ec70203296a7d451a3b947dac836ffdc4b", func := "loop.example/pub-g01441/laws.FnInPlace", spec := "fnInPlace", unfollowed := true, recurses := true, apart := false }
def FnInPlaceSaid : Prop := fnInPlaceRow.holds Try.pinned (OpenSpec.ofChange fnInPlaceSpec)

/-- ITS FALSE NEIGHBOUR: 'it returns false'. Refute it at one input. -/
def fnInPlaceWrong : ChangeSpec := { name := "fnInPlace", fn := fun _ => fun
  | [d] => { results := [.lit (.bool false)], args := [d] }
  | _ => none }
def FnInPlaceWrongFalsely : Prop := fnInPlaceRow.holds Try.pinned (OpenSpec.ofChange fnInPlaceWrong)

/-- 'laws.FnThereAndBack': WHATEVER THE INPUT: true; the input reads as it did. -/
def fnThereAndBackSpec : ChangeSpec := { name := "fnThereAndBack", fn := fun _ => fun
  | [d1, d2, d3] => { results := [.lit (.bool true)], args := [d1, d2, d3] }
  | _ => none }
def fnThereAndBackRow : OpenClaim := { program := "ytnpeieijadiobaa", sum := "9a698b336c35bf612108de83e51ca2ec70203296a7d451a3b947dac836ffdc4b", func := "loop.example/pub-g01441/laws.FnThereAndBack", spec := "fnThereAndBack", unfollowed := true, recurses := true, apart := false }
def FnThereAndBackSaid : Prop := fnThereAndBackRow.holds Try.pinned (OpenSpec.ofChange fnThereAndBackSpec)

/-- ITS FALSE NEIGHBOUR: 'it returns false'. Refute it at one input. -/
def fnThereAndBackWrong : ChangeSpec := { name := "fnThereAndBack", fn := fun _ => fun
  | [d1, d2, d3] => { results := [.lit (.bool false)], args := [d1, d2, d3] }
  | _ => none }
def FnThereAndBackWrongFalsely : Prop := fnThereAndBackRow.holds Try.pinned (OpenSpec.ofChange fnThereAndBackWrong)

/-- 'laws.FnIterateOn': WHATEVER THE INPUT: true; the input reads as it did. -/
def fnIterateOnSpec : ChangeSpec := { name := "fnIterateOn", fn := fun _ => fun
  | [d1, d2] => { results := [.lit (.bool true)], args := [d1, d2] }
  | _ => none }
def fnIterateOnRow : OpenClaim := { program := "ytnpeieijadiobaa", sum := "9a698b336c35bf612108de83e51ca2ec70203296a7d451a3b947dac836ffdc4b", func := "loop.example/pub-g01441/laws.FnIterateOn", spec := "fnIterateOn", unfollowed := true, recurses := true, apart := false }
def FnIterateOnSaid : Prop := fnIterateOnRow.holds Try.pinned (OpenSpec.ofChange fnIterateOnSpec)

/-- ITS FALSE NEIGHBOUR: 'it returns false'. Refute it at one input. -/
def fnIterateOnWrong : ChangeSpec := { name := "fnIterateOn", fn := fun _ => fun
  | [d1, d2] => { results := [.lit (.bool false)], args := [d1, d2] }
  | _ => none }
def FnIterateOnWrongFalsely : Prop := fnIterateOnRow.holds Try.pinned (OpenSpec.ofChange fnIterateOnWrong)

/-- 'laws.FnDifference': WHATEVER THE INPUT: true; the input reads as it did. -/
def fnDifferenceSpec : ChangeSpec := { name := "fnDifference", fn := fun _ => fun
  | [d1, d2, d3] => { results := [.lit (.bool true)], args := [d1, d2, d3] }
  | _ => none }
def fnDifferenceRow : OpenClaim := { program := "ytnpeieijadiobaa", sum := "9a698b336c35bf612108de83e51ca2ec70203296a7d451a3b947dac836ffdc4b", func := "loop.example/pub-g01441/laws.FnDifference", spec := "fnDifference", unfollowed := true, recurses := true, apart := false }
def FnDifferenceSaid : Prop := fnDifferenceRow.holds Try.pinned (OpenSpec.ofChange fnDifferenceSpec)

/-- ITS FALSE NEIGHBOUR: 'it returns false'. Refute it at one input. -/
def fnDifferenceWrong : ChangeSpec := { name := "fnDifference", fn := fun _ => fun
  | [d1, d2, d3] => { results := [.lit (.bool false)], args := [d1, d2, d3] }
  | _ => none }
def FnDifferenceWrongFalsely : Prop := fnDifferenceRow.holds Try.pinned (OpenSpec.ofChange fnDifferenceWrong)

/-- 'laws.FnDifferenceOrder': WHATEVER THE INPUT: true; the input reads as it did. -/
def fnDifferenceOrderSpec : ChangeSpec := { name := "fnDifferenceOrder", fn := fun _ => fun
  | [d1, d2, d3] => { results := [.lit (.bool true)], args := [d1, d2, d3] }
  | _ => none }
def fnDifferenceOrderRow : OpenClaim := { program := "ytnpeieijadiobaa", sum := "9a698b336c35bf612108de83e51ca2ec70203296a7d451a3b947dac836ffdc4b", func := "loop.example/pub-g01441/laws.FnDifferenceOrder", spec := "fnDifferenceOrder", unfollowed := true, recurses := true, apart := false }
def FnDifferenceOrderSaid : Prop := fnDifferenceOrderRow.holds Try.pinned (OpenSpec.ofChange fnDifferenceOrderSpec)

/-- ITS FALSE NEIGHBOUR: 'it returns false'. Refute it at one input. -/
def fnDifferenceOrderWrong : ChangeSpec := { name := "fnDifferenceOrder", fn := fun _ => fun
  | [d1, d2, d3] => { results := [.lit (.bool false)], args := [d1, d2, d3] }
  | _ => none }
def FnDifferenceOrderWrongFalsely : Prop := fnDifferenceOrderRow.holds Try.pinned (OpenSpec.ofChange fnDifferenceOrderWrong)

/-- 'laws.FnIntersection': WHATEVER THE INPUT: true; the input reads as it did. -/
def fnIntersectionSpec : ChangeSpec := { name := "fnIntersection", fn := fun _ => fun
  | [d1, d2, d3] => { results := [.lit (.bool true)], args := [d1, d2, d3] }
  | _ => none }
def fnIntersectionRow : OpenClaim := { program := "ytnpeieijadiobaa", sum := "9a698b336c35bf612108de83e51ca2ec70203296a7d451a3b947dac836ffdc4b", func := "loop.example/pub-g01441/laws.FnIntersection", spec := "fnIntersection", unfollowed := true, recurses := true, apart := false }
def FnIntersectionSaid : Prop := fnIntersectionRow.holds Try.pinned (OpenSpec.ofChange fnIntersectionSpec)

/-- ITS FALSE NEIGHBOUR: 'it returns false'. Refute it at one input. -/
def fnIntersectionWrong : ChangeSpec := { name := "fnIntersection", fn := fun _ => fun
  | [d1, d2, d3] => { results := [.lit (.bool false)], args := [d1, d2, d3] }
  | _ => none }
def FnIntersectionWrongFalsely : Prop := fnIntersectionRow.holds Try.pinned (OpenSpec.ofChange fnIntersectionWrong)

/-- 'laws.FnIntersectionNone': WHATEVER THE INPUT: true; the input reads as it did. -/
def fnIntersectionNoneSpec : ChangeSpec := { name := "fnIntersectionNone", fn := fun _ => fun
  | [d1, d2] => { results := [.lit (.bool true)], args := [d1, d2] }
  | _ => none }
def fnIntersectionNoneRow : OpenClaim := { program := "ytnpeieijadiobaa", sum := "9a698b336c35bf612108de83e51ca2ec70203296a7d451a3b947dac836ffdc4b", func := "loop.example/pub-g01441/laws.FnIntersectionNone", spec := "fnIntersectionNone", unfollowed := true, recurses := true, apart := false }
def FnIntersectionNoneSaid : Prop := fnIntersectionNoneRow.holds Try.pinned (OpenSpec.ofChange fnIntersectionNoneSpec)

/-- ITS FALSE NEIGHBOUR: 'it returns false'. Refute it at one input. -/
def fnIntersectionNoneWrong : ChangeSpec := { name := "fnIntersectionNone", fn := fun _ => fun
  | [d1, d2] => { results := [.lit (.bool false)], args := [d1, d2] }
  | _ => none }
def FnIntersectionNoneWrongFalsely : Prop := fnIntersectionNoneRow.holds Try.pinned (OpenSpec.ofChange fnIntersectionNoneWrong)

/-- 'laws.FnUnion': WHATEVER THE INPUT: true; the input reads as it did. -/
def fnUnionSpec : ChangeSpec := { name := "fnUnion", fn := fun _ => fun
  | [d1, d2, d3] => { results := [.lit (.bool true)], args := [d1, d2, d3] }
  | _ => none }
def fnUnionRow : OpenClaim := { program := "ytnpeieijadiobaa", sum := "9a698b336c35bf612108de83e51ca2ec70203296a7d451a3b947dac836ffdc4b", func := "loop.example/pub-g01441/laws.FnUnion", spec := "fnUnion", unfollowed := true, recurses := true, apart := false }
def FnUnionSaid : Prop := fnUnionRow.holds Try.pinned (OpenSpec.ofChange fnUnionSpec)

/-- ITS FALSE NEIGHBOUR: 'it returns false'. Refute it at one input. -/
def fnUnionWrong : ChangeSpec := { name := "fnUnion", fn := fun _ => fun
  | [d1, d2, d3] => { results := [.lit (.bool false)], args := [d1, d2, d3] }
  | _ => none }
def FnUnionWrongFalsely : Prop := fnUnionRow.holds Try.pinned (OpenSpec.ofChange fnUnionWrong)

/-- 'laws.FnUnionNone': WHATEVER THE INPUT: true; the input reads as it did. -/
def fnUnionNoneSpec : ChangeSpec := { name := "fnUnionNone", fn := fun _ => fun
  | [d1, d2] => { results := [.lit (.bool true)], args := [d1, d2] }
  | _ => none }
def fnUnionNoneRow : OpenClaim := { program := "ytnpeieijadiobaa", sum := "9a698b336c35bf612108de83e51ca2ec70203296a7d451a3b947dac836ffdc4b", func := "loop.example/pub-g01441/laws.FnUnionNone", spec := "fnUnionNone", unfollowed := true, recurses := true, apart := false }
def FnUnionNoneSaid : Prop := fnUnionNoneRow.holds Try.pinned (OpenSpec.ofChange fnUnionNoneSpec)

/-- ITS FALSE NEIGHBOUR: 'it returns false'. Refute it at one input. -/
def fnUnionNoneWrong : ChangeSpec := { name := "fnUnionNone", fn := fun _ => fun
  | [d1, d2] => { results := [.lit (.bool false)], args := [d1, d2] }
  | _ => none }
def FnUnionNoneWrongFalsely : Prop := fnUnionNoneRow.holds Try.pinned (OpenSpec.ofChange fnUnionNoneWrong)

/- THE SECOND FORM. 'bulk': how many values and letters a reading holds, each counted each time it is reached (what is shared counts as often as it is met; a slice's spare places count too). A statement '..UptoSaid' is the law's where the arguments, and the package variables that the reading takes, are together of bulk at most 1048576: NARROWER than '..Said'. Prove '..Said' where nothing that the law and all that it calls make is longer than what came in: it says more and counts as full. Else prove '..UptoSaid'. A law counts once. -/
mutual
def uptoBulk {H : Type} : DataW H → Nat
  | .lit (.string bytes) => bytes.length + 1
  | .lit _ => 1
  | .nil => 1
  | .ptr d => uptoBulk d + 1
  | .slice elems spare => uptoBulkAll elems + uptoBulkAll spare + 1
  | .agg parts => uptoBulkAll parts + 1
  | .iface _ d => uptoBulk d + 1
  | .map entries => uptoBulkEntries entries + 1
  | .held _ => 1
def uptoBulkAll {H : Type} : List (DataW H) → Nat
  | [] => 0
  | d :: r => uptoBulk d + uptoBulkAll r
def uptoBulkEntries {H : Type} : List (Lit × DataW H) → Nat
  | [] => 0
  | x :: r => uptoBulkEntry x + uptoBulkEntries r
def uptoBulkEntry {H : Type} : Lit × DataW H → Nat
  | (.string bytes, d) => bytes.length + uptoBulk d + 1
  | (_, d) => uptoBulk d + 1
 end
def uptoSmall : (H : Type) → List (DataW H) → Bool := fun _ ds => decide (uptoBulkAll ds ≤ 1048576)
def OpenSpec.upto (s : _root_.Go.ChangeSpec) : _root_.Go.OpenSpec := { _root_.Go.OpenSpec.ofChange s with cond := some uptoSmall }

/-- 'laws.FnNeighbours', WHERE WHAT IT READS IS OF BULK AT MOST 1048576: true; the input reads as it did. -/
def fnNeighboursUptoRow : OpenClaim := { program := "ytnpeieijadiobaa", sum := "9a698b336c35bf612108de83e51ca2ec70203296a7d451a3b947dac836ffdc4b", func := "loop.example/pub-g01441/laws.FnNeighbours", spec := "fnNeighbours", recurses := true, apart := false, narrowed := true }
def FnNeighboursUptoSaid : Prop := fnNeighboursUptoRow.holds Try.pinned (OpenSpec.upto fnNeighboursSpec)

/-- 'laws.FnDelete', WHERE WHAT IT READS IS OF BULK AT MOST 1048576: true; the input reads as it did. -/
def fnDeleteUptoRow : OpenClaim := { program := "ytnpeieijadiobaa", sum := "9a698b336c35bf612108de83e51ca2ec70203296a7d451a3b947dac836ffdc4b", func := "loop.example/pub-g01441/laws.FnDelete", spec := "fnDelete", unfollowed := true, recurses := true, apart := false, narrowed := true }
def FnDeleteUptoSaid : Prop := fnDeleteUptoRow.holds Try.pinned (OpenSpec.upto fnDeleteSpec)

/-- 'laws.FnCopies', WHERE WHAT IT READS IS OF BULK AT MOST 1048576: true; the input reads as it did. -/
def fnCopiesUptoRow : OpenClaim := { program := "ytnpeieijadiobaa", sum := "9a698b336c35bf612108de83e51ca2ec70203296a7d451a3b947dac836ffdc4b", func := "loop.example/pub-g01441/laws.FnCopies", spec := "fnCopies", unfollowed := true, recurses := true, apart := false, narrowed := true }
def FnCopiesUptoSaid : Prop := fnCopiesUptoRow.holds Try.pinned (OpenSpec.upto fnCopiesSpec)

/-- 'laws.FnInPlace', WHERE WHAT IT READS IS OF BULK AT MOST 1048576: true; the input reads as it did. -/
def fnInPlaceUptoRow : OpenClaim := { program := "ytnpeieijadiobaa", sum := "9a698b336c35bf612108de83e51ca2ec70203296a7d451a3b947dac836ffdc4b", func := "loop.example/pub-g01441/laws.FnInPlace", spec := "fnInPlace", unfollowed := true, recurses := true, apart := false, narrowed := true }
def FnInPlaceUptoSaid : Prop := fnInPlaceUptoRow.holds Try.pinned (OpenSpec.upto fnInPlaceSpec)

/-- 'laws.FnThereAndBack', WHERE WHAT IT READS IS OF BULK AT MOST 1048576: true; the input reads as it did. -/
def fnThereAndBackUptoRow : OpenClaim := { program := "ytnpeieijadiobaa", sum := "9a698b336c35bf612108de83e51ca2ec70203296a7d451a3b947dac836ffdc4b", func := "loop.example/pub-g01441/laws.FnThereAndBack", spec := "fnThereAndBack", unfollowed := true, recurses := true, apart := false, narrowed := true }
def FnThereAndBackUptoSaid : Prop := fnThereAndBackUptoRow.holds Try.pinned (OpenSpec.upto fnThereAndBackSpec)

/-- 'laws.FnIterateOn', WHERE WHAT IT READS IS OF BULK AT MOST 1048576: true; the input reads as it did. -/
def fnIterateOnUptoRow : OpenClaim := { program := "ytnpeieijadiobaa", sum := "9a698b336c35bf612108de83e51ca2ec70203296a7d451a3b947dac836ffdc4b", func := "loop.example/pub-g01441/laws.FnIterateOn", spec := "fnIterateOn", unfollowed := true, recurses := true, apart := false, narrowed := true }
def FnIterateOnUptoSaid : Prop := fnIterateOnUptoRow.holds Try.pinned (OpenSpec.upto fnIterateOnSpec)

/-- 'laws.FnDifference', WHERE WHAT IT READS IS OF BULK AT MOST 1048576: true; the input reads as it did. -/
def fnDifferenceUptoRow : OpenClaim := { program := "ytnpeieijadiobaa", sum := "9a698b336c35bf612108de83e51ca2ec70203296a7d451a3b947dac836ffdc4b", func := "loop.example/pub-g01441/laws.FnDifference", spec := "fnDifference", unfollowed := true, recurses := true, apart := false, narrowed := true }
def FnDifferenceUptoSaid : Prop := fnDifferenceUptoRow.holds Try.pinned (OpenSpec.upto fnDifferenceSpec)

/-- 'laws.FnDifferenceOrder', WHERE WHAT IT READS IS OF BULK AT MOST 1048576: true; the input reads as it did. -/
def fnDifferenceOrderUptoRow : OpenClaim := { program := "ytnpeieijadiobaa", sum := "9a698b336c35bf612108de83e51ca2ec70203296a7d451a3b947dac836ffdc4b", func := "loop.example/pub-g01441/laws.FnDifferenceOrder", spec := "fnDifferenceOrder", unfollowed := true, recurses := true, apart := false, narrowed := true }
def FnDifferenceOrderUptoSaid : Prop := fnDifferenceOrderUptoRow.holds Try.pinned (OpenSpec.upto fnDifferenceOrderSpec)

/-- 'laws.FnIntersection', WHERE WHAT IT READS IS OF BULK AT MOST 1048576: true; the input reads as it did. -/
def fnIntersectionUptoRow : OpenClaim := { program := "ytnpeieijadiobaa", sum := "9a698b336c35bf612108de83e51ca2ec70203296a7d451a3b947dac836ffdc4b", func := "loop.example/pub-g01441/laws.FnIntersection", spec := "fnIntersection", unfollowed := true, recurses := true, apart := false, narrowed := true }
def FnIntersectionUptoSaid : Prop := fnIntersectionUptoRow.holds Try.pinned (OpenSpec.upto fnIntersectionSpec)

/-- 'laws.FnIntersectionNone', WHERE WHAT IT READS IS OF BULK AT MOST 1048576: true; the input reads as it did. -/
def fnIntersectionNoneUptoRow : OpenClaim := { program := "ytnpeieijadiobaa", sum := "9a698b336c35bf612108de83e51ca2ec70203296a7d451a3b947dac836ffdc4b", func := "loop.example/pub-g01441/laws.FnIntersectionNone", spec := "fnIntersectionNone", unfollowed := true, recurses := true, apart := false, narrowed := true }
def FnIntersectionNoneUptoSaid : Prop := fnIntersectionNoneUptoRow.holds Try.pinned (OpenSpec.upto fnIntersectionNoneSpec)

/-- 'laws.FnUnion', WHERE WHAT IT READS IS OF BULK AT MOST 1048576: true; the input reads as it did. -/
def fnUnionUptoRow : OpenClaim := { program := "ytnpeieijadiobaa", sum := "9a698b336c35bf612108de83e51ca2ec70203296a7d451a3b947dac836ffdc4b", func := "loop.example/pub-g01441/laws.FnUnion", spec := "fnUnion", unfollowed := true, recurses := true, apart := false, narrowed := true }
def FnUnionUptoSaid : Prop := fnUnionUptoRow.holds Try.pinned (OpenSpec.upto fnUnionSpec)

/-- 'laws.FnUnionNone', WHERE WHAT IT READS IS OF BULK AT MOST 1048576: true; the input reads as it did. -/
def fnUnionNoneUptoRow : OpenClaim := { program := "ytnpeieijadiobaa", sum := "9a698b336c35bf612108de83e51ca2ec70203296a7d451a3b947dac836ffdc4b", func := "loop.example/pub-g01441/laws.FnUnionNone", spec := "fnUnionNone", unfollowed := true, recurses := true, apart := false, narrowed := true }
def FnUnionNoneUptoSaid : Prop := fnUnionNoneUptoRow.holds Try.pinned (OpenSpec.upto fnUnionNoneSpec)

end Rows
end Go.Proofs.Ytnpeieijadiobaa
