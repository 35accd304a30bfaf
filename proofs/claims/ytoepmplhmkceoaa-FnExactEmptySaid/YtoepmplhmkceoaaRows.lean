/-
  No cell of these rows narrows 'for every input' (looked for: loops, veiled, ifaces, maps, wideKeys, modest, calm, conditions, laid).
  DERIVED. THE GIVEN ROWS OF THIS SEAT. 12 by the template 'for every input the law returns true; each argument reads behind the call as it read before'; 0 by the template 'total and deterministic' (their statements: YtoepmplhmkceoaaTotals.lean).
  GIVEN WITH THE SEED: the statements are not yours to turn. If you find one false, say at which input.
  Laid BY PROGRAM, IN A SANDBOX (cutbox-rows.mjs): the forced cells as the released guide's own fill.sh prints them over the translation b19e5bec029dd986… (all of the seat's roots in one cut). By AI agents, Wed Nov 11 2026. No macro, syntax, notation, axiom, sorry.
-/
import Derived.Test.YtoepmplhmkceoaaChecked
import GoSem.Claim
import GoSem.ClaimJoined
import GoSem.ClaimMapViews
import Derived.JoinedTies
import Derived.KernelRfl
namespace Go.Proofs.Ytoepmplhmkceoaa
/- THE CELL 'sum', in the pinned program and in every row, IS THE sha256 OF THE DUMP (.gsa) THAT YtoepmplhmkceoaaProg.lean LOADS. Nothing in Lean hashes anything: it is a label: what it is worth is what the hold of that sum in a sandbox is worth. -/
noncomputable def Try.pinned : Pinned := { name := "ytoepmplhmkceoaa", sum := "b19e5bec029dd9860087da3ffb755a67c0b59d300bbb3409f77d6467e9e2785c", checked := Try.checked }
namespace Rows
def none {H : Type} : Left H := { results := [], args := [] }

/-- 'laws.FnExactEmpty': WHATEVER THE INPUT: true; the input reads as it did. -/
def fnExactEmptySpec : ChangeSpec := { name := "fnExactEmpty", fn := fun _ => fun
  | [d] => { results := [.lit (.bool true)], args := [d] }
  | _ => none }
def fnExactEmptyRow : OpenClaim := { program := "ytoepmplhmkceoaa", sum := "b19e5bec029dd9860087da3ffb755a67c0b59d300bbb3409f77d6467e9e2785c", func := "loop.example/pub-g01441/laws.FnExactEmpty", spec := "fnExactEmpty", apart := false }
def FnExactEmptySaid : Prop := fnExactEmptyRow.holds Try.pinned (OpenSpec.ofChange fnExactEmptySpec)

/-- ITS FALSE NEIGHBOUR: 'it returns false'. Refute it at one input. -/
def fnExactEmptyWrong : ChangeSpec := { name := "fnExactEmpty", fn := fun _ => fun
  | [d] => { results := [.lit (.bool false)], args := [d] }
  | _ => none }
def FnExactEmptyWrongFalsely : Prop := fnExactEmptyRow.holds Try.pinned (OpenSpec.ofChange fnExactEmptyWrong)

/-- 'laws.FnIsEmpty': WHATEVER THE INPUT: true; the input reads as it did. -/
def fnIsEmptySpec : ChangeSpec := { name := "fnIsEmpty", fn := fun _ => fun
  | [d] => { results := [.lit (.bool true)], args := [d] }
  | _ => none }
def fnIsEmptyRow : OpenClaim := { program := "ytoepmplhmkceoaa", sum := "b19e5bec029dd9860087da3ffb755a67c0b59d300bbb3409f77d6467e9e2785c", func := "loop.example/pub-g01441/laws.FnIsEmpty", spec := "fnIsEmpty", recurses := true, apart := false }
def FnIsEmptySaid : Prop := fnIsEmptyRow.holds Try.pinned (OpenSpec.ofChange fnIsEmptySpec)

/-- ITS FALSE NEIGHBOUR: 'it returns false'. Refute it at one input. -/
def fnIsEmptyWrong : ChangeSpec := { name := "fnIsEmpty", fn := fun _ => fun
  | [d] => { results := [.lit (.bool false)], args := [d] }
  | _ => none }
def FnIsEmptyWrongFalsely : Prop := fnIsEmptyRow.holds Try.pinned (OpenSpec.ofChange fnIsEmptyWrong)

/-- 'laws.FnSize': WHATEVER THE INPUT: true; the input reads as it did. -/
def fnSizeSpec : ChangeSpec := { name := "fnSize", fn := fun _ => fun
  | [d] => { results := [.lit (.bool true)], args := [d] }
  | _ => none }
def fnSizeRow : OpenClaim := { program := "ytoepmplhmkceoaa", sum := "b19e5bec029dd9860087da3ffb755a67c0b59d300bbb3409f77d6467e9e2785c", func := "loop.example/pub-g01441/laws.FnSize", spec := "fnSize", recurses := true, apart := false }
def FnSizeSaid : Prop := fnSizeRow.holds Try.pinned (OpenSpec.ofChange fnSizeSpec)

/-- ITS FALSE NEIGHBOUR: 'it returns false'. Refute it at one input. -/
def fnSizeWrong : ChangeSpec := { name := "fnSize", fn := fun _ => fun
  | [d] => { results := [.lit (.bool false)], args := [d] }
  | _ => none }
def FnSizeWrongFalsely : Prop := fnSizeRow.holds Try.pinned (OpenSpec.ofChange fnSizeWrong)

/-- 'laws.FnIsSingle': WHATEVER THE INPUT: true; the input reads as it did. -/
def fnIsSingleSpec : ChangeSpec := { name := "fnIsSingle", fn := fun _ => fun
  | [d] => { results := [.lit (.bool true)], args := [d] }
  | _ => none }
def fnIsSingleRow : OpenClaim := { program := "ytoepmplhmkceoaa", sum := "b19e5bec029dd9860087da3ffb755a67c0b59d300bbb3409f77d6467e9e2785c", func := "loop.example/pub-g01441/laws.FnIsSingle", spec := "fnIsSingle", recurses := true, apart := false }
def FnIsSingleSaid : Prop := fnIsSingleRow.holds Try.pinned (OpenSpec.ofChange fnIsSingleSpec)

/-- ITS FALSE NEIGHBOUR: 'it returns false'. Refute it at one input. -/
def fnIsSingleWrong : ChangeSpec := { name := "fnIsSingle", fn := fun _ => fun
  | [d] => { results := [.lit (.bool false)], args := [d] }
  | _ => none }
def FnIsSingleWrongFalsely : Prop := fnIsSingleRow.holds Try.pinned (OpenSpec.ofChange fnIsSingleWrong)

/-- 'laws.FnVisit': WHATEVER THE INPUT: true; the input reads as it did. -/
def fnVisitSpec : ChangeSpec := { name := "fnVisit", fn := fun _ => fun
  | [d] => { results := [.lit (.bool true)], args := [d] }
  | _ => none }
def fnVisitRow : OpenClaim := { program := "ytoepmplhmkceoaa", sum := "b19e5bec029dd9860087da3ffb755a67c0b59d300bbb3409f77d6467e9e2785c", func := "loop.example/pub-g01441/laws.FnVisit", spec := "fnVisit", unfollowed := true, recurses := true, apart := false }
def FnVisitSaid : Prop := fnVisitRow.holds Try.pinned (OpenSpec.ofChange fnVisitSpec)

/-- ITS FALSE NEIGHBOUR: 'it returns false'. Refute it at one input. -/
def fnVisitWrong : ChangeSpec := { name := "fnVisit", fn := fun _ => fun
  | [d] => { results := [.lit (.bool false)], args := [d] }
  | _ => none }
def FnVisitWrongFalsely : Prop := fnVisitRow.holds Try.pinned (OpenSpec.ofChange fnVisitWrong)

/-- 'laws.FnMatches': WHATEVER THE INPUT: true; the input reads as it did. -/
def fnMatchesSpec : ChangeSpec := { name := "fnMatches", fn := fun _ => fun
  | [d] => { results := [.lit (.bool true)], args := [d] }
  | _ => none }
def fnMatchesRow : OpenClaim := { program := "ytoepmplhmkceoaa", sum := "b19e5bec029dd9860087da3ffb755a67c0b59d300bbb3409f77d6467e9e2785c", func := "loop.example/pub-g01441/laws.FnMatches", spec := "fnMatches", unfollowed := true, recurses := true, apart := false }
def FnMatchesSaid : Prop := fnMatchesRow.holds Try.pinned (OpenSpec.ofChange fnMatchesSpec)

/-- ITS FALSE NEIGHBOUR: 'it returns false'. Refute it at one input. -/
def fnMatchesWrong : ChangeSpec := { name := "fnMatches", fn := fun _ => fun
  | [d] => { results := [.lit (.bool false)], args := [d] }
  | _ => none }
def FnMatchesWrongFalsely : Prop := fnMatchesRow.holds Try.pinned (OpenSpec.ofChange fnMatchesWrong)

/-- 'laws.FnFind': WHATEVER THE INPUT: true; the input reads as it did. -/
def fnFindSpec : ChangeSpec := { name := "fnFind", fn := fun _ => fun
  | [d1, d2] => { results := [.lit (.bool true)], args := [d1, d2] }
  | _ => none }
def fnFindRow : OpenClaim := { program := "ytoepmplhmkceoaa", sum := "b19e5bec029dd9860087da3ffb755a67c0b59d300bbb3409f77d6467e9e2785c", func := "loop.example/pub-g01441/laws.FnFind", spec := "fnFind", recurses := true, apart := false }
def FnFindSaid : Prop := fnFindRow.holds Try.pinned (OpenSpec.ofChange fnFindSpec)

/-- ITS FALSE NEIGHBOUR: 'it returns false'. Refute it at one input. -/
def fnFindWrong : ChangeSpec := { name := "fnFind", fn := fun _ => fun
  | [d1, d2] => { results := [.lit (.bool false)], args := [d1, d2] }
  | _ => none }
def FnFindWrongFalsely : Prop := fnFindRow.holds Try.pinned (OpenSpec.ofChange fnFindWrong)

/-- 'laws.FnMax': WHATEVER THE INPUT: true; the input reads as it did. -/
def fnMaxSpec : ChangeSpec := { name := "fnMax", fn := fun _ => fun
  | [d] => { results := [.lit (.bool true)], args := [d] }
  | _ => none }
def fnMaxRow : OpenClaim := { program := "ytoepmplhmkceoaa", sum := "b19e5bec029dd9860087da3ffb755a67c0b59d300bbb3409f77d6467e9e2785c", func := "loop.example/pub-g01441/laws.FnMax", spec := "fnMax", recurses := true, apart := false }
def FnMaxSaid : Prop := fnMaxRow.holds Try.pinned (OpenSpec.ofChange fnMaxSpec)

/-- ITS FALSE NEIGHBOUR: 'it returns false'. Refute it at one input. -/
def fnMaxWrong : ChangeSpec := { name := "fnMax", fn := fun _ => fun
  | [d] => { results := [.lit (.bool false)], args := [d] }
  | _ => none }
def FnMaxWrongFalsely : Prop := fnMaxRow.holds Try.pinned (OpenSpec.ofChange fnMaxWrong)

/-- 'laws.FnMin': WHATEVER THE INPUT: true; the input reads as it did. -/
def fnMinSpec : ChangeSpec := { name := "fnMin", fn := fun _ => fun
  | [d] => { results := [.lit (.bool true)], args := [d] }
  | _ => none }
def fnMinRow : OpenClaim := { program := "ytoepmplhmkceoaa", sum := "b19e5bec029dd9860087da3ffb755a67c0b59d300bbb3409f77d6467e9e2785c", func := "loop.example/pub-g01441/laws.FnMin", spec := "fnMin", recurses := true, apart := false }
def FnMinSaid : Prop := fnMinRow.holds Try.pinned (OpenSpec.ofChange fnMinSpec)

/-- ITS FALSE NEIGHBOUR: 'it returns false'. Refute it at one input. -/
def fnMinWrong : ChangeSpec := { name := "fnMin", fn := fun _ => fun
  | [d] => { results := [.lit (.bool false)], args := [d] }
  | _ => none }
def FnMinWrongFalsely : Prop := fnMinRow.holds Try.pinned (OpenSpec.ofChange fnMinWrong)

/-- 'laws.FnInsert': WHATEVER THE INPUT: true; the input reads as it did. -/
def fnInsertSpec : ChangeSpec := { name := "fnInsert", fn := fun _ => fun
  | [d1, d2, d3] => { results := [.lit (.bool true)], args := [d1, d2, d3] }
  | _ => none }
def fnInsertRow : OpenClaim := { program := "ytoepmplhmkceoaa", sum := "b19e5bec029dd9860087da3ffb755a67c0b59d300bbb3409f77d6467e9e2785c", func := "loop.example/pub-g01441/laws.FnInsert", spec := "fnInsert", unfollowed := true, recurses := true, apart := false }
def FnInsertSaid : Prop := fnInsertRow.holds Try.pinned (OpenSpec.ofChange fnInsertSpec)

/-- ITS FALSE NEIGHBOUR: 'it returns false'. Refute it at one input. -/
def fnInsertWrong : ChangeSpec := { name := "fnInsert", fn := fun _ => fun
  | [d1, d2, d3] => { results := [.lit (.bool false)], args := [d1, d2, d3] }
  | _ => none }
def FnInsertWrongFalsely : Prop := fnInsertRow.holds Try.pinned (OpenSpec.ofChange fnInsertWrong)

/-- 'laws.FnGlb': WHATEVER THE INPUT: true; the input reads as it did. -/
def fnGlbSpec : ChangeSpec := { name := "fnGlb", fn := fun _ => fun
  | [d1, d2] => { results := [.lit (.bool true)], args := [d1, d2] }
  | _ => none }
def fnGlbRow : OpenClaim := { program := "ytoepmplhmkceoaa", sum := "b19e5bec029dd9860087da3ffb755a67c0b59d300bbb3409f77d6467e9e2785c", func := "loop.example/pub-g01441/laws.FnGlb", spec := "fnGlb", recurses := true, apart := false }
def FnGlbSaid : Prop := fnGlbRow.holds Try.pinned (OpenSpec.ofChange fnGlbSpec)

/-- ITS FALSE NEIGHBOUR: 'it returns false'. Refute it at one input. -/
def fnGlbWrong : ChangeSpec := { name := "fnGlb", fn := fun _ => fun
  | [d1, d2] => { results := [.lit (.bool false)], args := [d1, d2] }
  | _ => none }
def FnGlbWrongFalsely : Prop := fnGlbRow.holds Try.pinned (OpenSpec.ofChange fnGlbWrong)

/-- 'laws.FnAsked': WHATEVER THE INPUT: true; the input reads as it did. -/
def fnAskedSpec : ChangeSpec := { name := "fnAsked", fn := fun _ => fun
  | [d1, d2] => { results := [.lit (.bool true)], args := [d1, d2] }
  | _ => none }
def fnAskedRow : OpenClaim := { program := "ytoepmplhmkceoaa", sum := "b19e5bec029dd9860087da3ffb755a67c0b59d300bbb3409f77d6467e9e2785c", func := "loop.example/pub-g01441/laws.FnAsked", spec := "fnAsked", unfollowed := true, recurses := true, apart := false }
def FnAskedSaid : Prop := fnAskedRow.holds Try.pinned (OpenSpec.ofChange fnAskedSpec)

/-- ITS FALSE NEIGHBOUR: 'it returns false'. Refute it at one input. -/
def fnAskedWrong : ChangeSpec := { name := "fnAsked", fn := fun _ => fun
  | [d1, d2] => { results := [.lit (.bool false)], args := [d1, d2] }
  | _ => none }
def FnAskedWrongFalsely : Prop := fnAskedRow.holds Try.pinned (OpenSpec.ofChange fnAskedWrong)

/- THE SECOND FORM. 'bulk': how many values and letters a reading holds, each counted each time it is reached (what is shared counts as often as it is met; a slice's spare places count too). A statement '..UptoSaid' is the law's where the arguments, and the package variables that the reading takes, are together of bulk at most 1048576: NARROWER than '..Said'. Prove '..Said' where nothing that the law and all that it calls make is longer than what came in: it says more and counts as full. Else prove '..UptoSaid'. A law counts once. -/
mutual
def uptoBulk {H : Type} : DataW H → Nat
  | .lit (.string bytes) => bytes.length + 1
  | .lit _ => 1
  | .nil => 1
  | .ptr d => uptoBulk d + 1
  | .slice elems spare => uptoBulkAll elems + uptoBulkAll spare + 1
  | .agg parts => uptoBulkAll parts + 1
  | .iface _ d => uptoBulk d + 1
  | .map entries => uptoBulkEntries entries + 1
  | .held _ => 1
def uptoBulkAll {H : Type} : List (DataW H) → Nat
  | [] => 0
  | d :: r => uptoBulk d + uptoBulkAll r
def uptoBulkEntries {H : Type} : List (Lit × DataW H) → Nat
  | [] => 0
  | x :: r => uptoBulkEntry x + uptoBulkEntries r
def uptoBulkEntry {H : Type} : Lit × DataW H → Nat
  | (.string bytes, d) => bytes.length + uptoBulk d + 1
  | (_, d) => uptoBulk d + 1
 end
def uptoSmall : (H : Type) → List (DataW H) → Bool := fun _ ds => decide (uptoBulkAll ds ≤ 1048576)
def OpenSpec.upto (s : _root_.Go.ChangeSpec) : _root_.Go.OpenSpec := { _root_.Go.OpenSpec.ofChange s with cond := some uptoSmall }

/-- 'laws.FnExactEmpty', WHERE WHAT IT READS IS OF BULK AT MOST 1048576: true; the input reads as it did. -/
def fnExactEmptyUptoRow : OpenClaim := { program := "ytoepmplhmkceoaa", sum := "b19e5bec029dd9860087da3ffb755a67c0b59d300bbb3409f77d6467e9e2785c", func := "loop.example/pub-g01441/laws.FnExactEmpty", spec := "fnExactEmpty", apart := false, narrowed := true }
def FnExactEmptyUptoSaid : Prop := fnExactEmptyUptoRow.holds Try.pinned (OpenSpec.upto fnExactEmptySpec)

/-- 'laws.FnIsEmpty', WHERE WHAT IT READS IS OF BULK AT MOST 1048576: true; the input reads as it did. -/
def fnIsEmptyUptoRow : OpenClaim := { program := "ytoepmplhmkceoaa", sum := "b19e5bec029dd9860087da3ffb755a67c0b59d300bbb3409f77d6467e9e2785c", func := "loop.example/pub-g01441/laws.FnIsEmpty", spec := "fnIsEmpty", recurses := true, apart := false, narrowed := true }
def FnIsEmptyUptoSaid : Prop := fnIsEmptyUptoRow.holds Try.pinned (OpenSpec.upto fnIsEmptySpec)

/-- 'laws.FnSize', WHERE WHAT IT READS IS OF BULK AT MOST 1048576: true; the input reads as it did. -/
def fnSizeUptoRow : OpenClaim := { program := "ytoepmplhmkceoaa", sum := "b19e5bec029dd9860087da3ffb755a67c0b59d300bbb3409f77d6467e9e2785c", func := "loop.example/pub-g01441/laws.FnSize", spec := "fnSize", recurses := true, apart := false, narrowed := true }
def FnSizeUptoSaid : Prop := fnSizeUptoRow.holds Try.pinned (OpenSpec.upto fnSizeSpec)

/-- 'laws.FnIsSingle', WHERE WHAT IT READS IS OF BULK AT MOST 1048576: true; the input reads as it did. -/
def fnIsSingleUptoRow : OpenClaim := { program := "ytoepmplhmkceoaa", sum := "b19e5bec029dd9860087da3ffb755a67c0b59d300bbb3409f77d6467e9e2785c", func := "loop.example/pub-g01441/laws.FnIsSingle", spec := "fnIsSingle", recurses := true, apart := false, narrowed := true }
def FnIsSingleUptoSaid : Prop := fnIsSingleUptoRow.holds Try.pinned (OpenSpec.upto fnIsSingleSpec)

/-- 'laws.FnVisit', WHERE WHAT IT READS IS OF BULK AT MOST 1048576: true; the input reads as it did. -/
def fnVisitUptoRow : OpenClaim := { program := "ytoepmplhmkceoaa", sum := "b19e5bec029dd9860087da3ffb755a67c0b59d300bbb3409f77d6467e9e2785c", func := "loop.example/pub-g01441/laws.FnVisit", spec := "fnVisit", unfollowed := true, recurses := true, apart := false, narrowed := true }
def FnVisitUptoSaid : Prop := fnVisitUptoRow.holds Try.pinned (OpenSpec.upto fnVisitSpec)

/-- 'laws.FnMatches', WHERE WHAT IT READS IS OF BULK AT MOST 1048576: true; the input reads as it did. -/
def fnMatchesUptoRow : OpenClaim := { program := "ytoepmplhmkceoaa", sum := "b19e5bec029dd9860087da3ffb755a67c0b59d300bbb3409f77d6467e9e2785c", func := "loop.example/pub-g01441/laws.FnMatches", spec := "fnMatches", unfollowed := true, recurses := true, apart := false, narrowed := true }
def FnMatchesUptoSaid : Prop := fnMatchesUptoRow.holds Try.pinned (OpenSpec.upto fnMatchesSpec)

/-- 'laws.FnFind', WHERE WHAT IT READS IS OF BULK AT MOST 1048576: true; the input reads as it did. -/
def fnFindUptoRow : OpenClaim := { program := "ytoepmplhmkceoaa", sum := "b19e5bec029dd9860087da3ffb755a67c0b59d300bbb3409f77d6467e9e2785c", func := "loop.example/pub-g01441/laws.FnFind", spec := "fnFind", recurses := true, apart := false, narrowed := true }
def FnFindUptoSaid : Prop := fnFindUptoRow.holds Try.pinned (OpenSpec.upto fnFindSpec)

/-- 'laws.FnMax', WHERE WHAT IT READS IS OF BULK AT MOST 1048576: true; the input reads as it did. -/
def fnMaxUptoRow : OpenClaim := { program := "ytoepmplhmkceoaa", sum := "b19e5bec029dd9860087da3ffb755a67c0b59d300bbb3409f77d6467e9e2785c", func := "loop.example/pub-g01441/laws.FnMax", spec := "fnMax", recurses := true, apart := false, narrowed := true }
def FnMaxUptoSaid : Prop := fnMaxUptoRow.holds Try.pinned (OpenSpec.upto fnMaxSpec)

/-- 'laws.FnMin', WHERE WHAT IT READS IS OF BULK AT MOST 1048576: true; the input reads as it did. -/
def fnMinUptoRow : OpenClaim := { program := "ytoepmplhmkceoaa", sum := "b19e5bec029dd9860087da3ffb755a67c0b59d300bbb3409f77d6467e9e2785c", func := "loop.example/pub-g01441/laws.FnMin", spec := "fnMin", recurses := true, apart := false, narrowed := true }
def FnMinUptoSaid : Prop := fnMinUptoRow.holds Try.pinned (OpenSpec.upto fnMinSpec)

/-- 'laws.FnInsert', WHERE WHAT IT READS IS OF BULK AT MOST 1048576: true; the input reads as it did. -/
def fnInsertUptoRow : OpenClaim := { program := "ytoepmplhmkceoaa", sum := "b19e5bec029dd9860087da3ffb755a67c0b59d300bbb3409f77d6467e9e2785c", func := "loop.example/pub-g01441/laws.FnInsert", spec := "fnInsert", unfollowed := true, recurses := true, apart := false, narrowed := true }
def FnInsertUptoSaid : Prop := fnInsertUptoRow.holds Try.pinned (OpenSpec.upto fnInsertSpec)

/-- 'laws.FnGlb', WHERE WHAT IT READS IS OF BULK AT MOST 1048576: true; the input reads as it did. -/
def fnGlbUptoRow : OpenClaim := { program := "ytoepmplhmkceoaa", sum := "b19e5bec029dd9860087da3ffb755a67c0b59d300bbb3409f77d6467e9e2785c", func := "loop.example/pub-g01441/laws.FnGlb", spec := "fnGlb", recurses := true, apart := false, narrowed := true }
def FnGlbUptoSaid : Prop := fnGlbUptoRow.holds Try.pinned (OpenSpec.upto fnGlbSpec)

/-- 'laws.FnAsked', WHERE WHAT IT READS IS OF BULK AT MOST 1048576: true; the input reads as it did. -/
def fnAskedUptoRow : OpenClaim := { program := "ytoepmplhmkceoaa", sum := "b19e5bec029dd9860087da3ffb755a67c0b59d300bbb3409f77d6467e9e2785c", func := "loop.example/pub-g01441/laws.FnAsked", spec := "fnAsked", unfollowed := true, recurses := true, apart := false, narrowed := true }
def FnAskedUptoSaid : Prop := fnAskedUptoRow.holds Try.pinned (OpenSpec.upto fnAskedSpec)

end Rows
end Go.Proofs.Ytoepmplhmkceoaa
