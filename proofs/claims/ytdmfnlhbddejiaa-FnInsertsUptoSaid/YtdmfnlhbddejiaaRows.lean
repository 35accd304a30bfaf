/-
  No cell of these rows narrows 'for every input' (looked for: loops, veiled, ifaces, maps, wideKeys, modest, calm, conditions, laid).
  DERIVED. THE GIVEN ROWS OF THIS SEAT. 12 by the template 'for every input the law returns true; each argument reads behind the call as it read before'; 0 by the template 'total and deterministic' (their statements: YtdmfnlhbddejiaaTotals.lean).
  GIVEN WITH THE SEED: the statements are not yours to turn. If you find one false, say at which input.
  Laid BY PROGRAM, IN A SANDBOX (cutbox-rows.mjs): the forced cells as the released guide's own fill.sh prints them over the translation d820e38a95d4b4b7… (all of the seat's roots in one cut). By AI agents, Wed Nov 11 2026. No macro, syntax, notation, axiom, sorry.
-/
import Derived.Test.YtdmfnlhbddejiaaChecked
import GoSem.Claim
import GoSem.ClaimJoined
import GoSem.ClaimMapViews
import Derived.JoinedTies
import Derived.KernelRfl
namespace Go.Proofs.Ytdmfnlhbddejiaa
/- THE CELL 'sum', in the pinned program and in every row, IS THE sha256 OF THE DUMP (.gsa) THAT YtdmfnlhbddejiaaProg.lean LOADS. Nothing in Lean hashes anything: it is a label: what it is worth is what the hold of that sum in a sandbox is worth. -/
noncomputable def Try.pinned : Pinned := { name := "ytdmfnlhbddejiaa", sum := "d820e38a95d4b4b7f97c76aa6bb83abd12fef658ba8e33a10c5f4342347972a0", checked := Try.checked }
namespace Rows
def none {H : Type} : Left H := { results := [], args := [] }

/-- 'laws.FnDifference': WHATEVER THE INPUT: true; the input reads as it did. -/
def fnDifferenceSpec : ChangeSpec := { name := "fnDifference", fn := fun _ => fun
  | [d1, d2, d3] => { results := [.lit (.bool true)], args := [d1, d2, d3] }
  | _ => none }
def fnDifferenceRow : OpenClaim := { program := "ytdmfnlhbddejiaa", sum := "d820e38a95d4b4b7f97c76aa6bb83abd12fef658ba8e33a10c5f4342347972a0", func := "loop.example/pub-g01441/laws.FnDifference", spec := "fnDifference", unfollowed := true, recurses := true, apart := false }
def FnDifferenceSaid : Prop := fnDifferenceRow.holds Try.pinned (OpenSpec.ofChange fnDifferenceSpec)

/-- ITS FALSE NEIGHBOUR: 'it returns false'. Refute it at one input. -/
def fnDifferenceWrong : ChangeSpec := { name := "fnDifference", fn := fun _ => fun
  | [d1, d2, d3] => { results := [.lit (.bool false)], args := [d1, d2, d3] }
  | _ => none }
def FnDifferenceWrongFalsely : Prop := fnDifferenceRow.holds Try.pinned (OpenSpec.ofChange fnDifferenceWrong)

/-- 'laws.FnDifferenceOrder': WHATEVER THE INPUT: true; the input reads as it did. -/
def fnDifferenceOrderSpec : ChangeSpec := { name := "fnDifferenceOrder", fn := fun _ => fun
  | [d1, d2, d3] => { results := [.lit (.bool true)], args := [d1, d2, d3] }
  | _ => none }
def fnDifferenceOrderRow : OpenClaim := { program := "ytdmfnlhbddejiaa", sum := "d820e38a95d4b4b7f97c76aa6bb83abd12fef658ba8e33a10c5f4342347972a0", func := "loop.example/pub-g01441/laws.FnDifferenceOrder", spec := "fnDifferenceOrder", unfollowed := true, recurses := true, apart := false }
def FnDifferenceOrderSaid : Prop := fnDifferenceOrderRow.holds Try.pinned (OpenSpec.ofChange fnDifferenceOrderSpec)

/-- ITS FALSE NEIGHBOUR: 'it returns false'. Refute it at one input. -/
def fnDifferenceOrderWrong : ChangeSpec := { name := "fnDifferenceOrder", fn := fun _ => fun
  | [d1, d2, d3] => { results := [.lit (.bool false)], args := [d1, d2, d3] }
  | _ => none }
def FnDifferenceOrderWrongFalsely : Prop := fnDifferenceOrderRow.holds Try.pinned (OpenSpec.ofChange fnDifferenceOrderWrong)

/-- 'laws.FnIntersection': WHATEVER THE INPUT: true; the input reads as it did. -/
def fnIntersectionSpec : ChangeSpec := { name := "fnIntersection", fn := fun _ => fun
  | [d1, d2, d3] => { results := [.lit (.bool true)], args := [d1, d2, d3] }
  | _ => none }
def fnIntersectionRow : OpenClaim := { program := "ytdmfnlhbddejiaa", sum := "d820e38a95d4b4b7f97c76aa6bb83abd12fef658ba8e33a10c5f4342347972a0", func := "loop.example/pub-g01441/laws.FnIntersection", spec := "fnIntersection", unfollowed := true, recurses := true, apart := false }
def FnIntersectionSaid : Prop := fnIntersectionRow.holds Try.pinned (OpenSpec.ofChange fnIntersectionSpec)

/-- ITS FALSE NEIGHBOUR: 'it returns false'. Refute it at one input. -/
def fnIntersectionWrong : ChangeSpec := { name := "fnIntersection", fn := fun _ => fun
  | [d1, d2, d3] => { results := [.lit (.bool false)], args := [d1, d2, d3] }
  | _ => none }
def FnIntersectionWrongFalsely : Prop := fnIntersectionRow.holds Try.pinned (OpenSpec.ofChange fnIntersectionWrong)

/-- 'laws.FnIntersectionNone': WHATEVER THE INPUT: true; the input reads as it did. -/
def fnIntersectionNoneSpec : ChangeSpec := { name := "fnIntersectionNone", fn := fun _ => fun
  | [d1, d2] => { results := [.lit (.bool true)], args := [d1, d2] }
  | _ => none }
def fnIntersectionNoneRow : OpenClaim := { program := "ytdmfnlhbddejiaa", sum := "d820e38a95d4b4b7f97c76aa6bb83abd12fef658ba8e33a10c5f4342347972a0", func := "loop.example/pub-g01441/laws.FnIntersectionNone", spec := "fnIntersectionNone", unfollowed := true, recurses := true, apart := false }
def FnIntersectionNoneSaid : Prop := fnIntersectionNoneRow.holds Try.pinned (OpenSpec.ofChange fnIntersectionNoneSpec)

/-- ITS FALSE NEIGHBOUR: 'it returns false'. Refute it at one input. -/
def fnIntersectionNoneWrong : ChangeSpec := { name := "fnIntersectionNone", fn := fun _ => fun
  | [d1, d2] => { results := [.lit (.bool false)], args := [d1, d2] }
  | _ => none }
def FnIntersectionNoneWrongFalsely : Prop := fnIntersectionNoneRow.holds Try.pinned (OpenSpec.ofChange fnIntersectionNoneWrong)

/-- 'laws.FnUnion': WHATEVER THE INPUT: true; the input reads as it did. -/
def fnUnionSpec : ChangeSpec := { name := "fnUnion", fn := fun _ => fun
  | [d1, d2, d3] => { results := [.lit (.bool true)], args := [d1, d2, d3] }
  | _ => none }
def fnUnionRow : OpenClaim := { program := "ytdmfnlhbddejiaa", sum := "d820e38a95d4b4b7f97c76aa6bb83abd12fef658ba8e33a10c5f4342347972a0", func := "loop.example/pub-g01441/laws.FnUnion", spec := "fnUnion", unfollowed := true, recurses := true, apart := false }
def FnUnionSaid : Prop := fnUnionRow.holds Try.pinned (OpenSpec.ofChange fnUnionSpec)

/-- ITS FALSE NEIGHBOUR: 'it returns false'. Refute it at one input. -/
def fnUnionWrong : ChangeSpec := { name := "fnUnion", fn := fun _ => fun
  | [d1, d2, d3] => { results := [.lit (.bool false)], args := [d1, d2, d3] }
  | _ => none }
def FnUnionWrongFalsely : Prop := fnUnionRow.holds Try.pinned (OpenSpec.ofChange fnUnionWrong)

/-- 'laws.FnUnionNone': WHATEVER THE INPUT: true; the input reads as it did. -/
def fnUnionNoneSpec : ChangeSpec := { name := "fnUnionNone", fn := fun _ => fun
  | [d1, d2] => { results := [.lit (.bool true)], args := [d1, d2] }
  | _ => none }
def fnUnionNoneRow : OpenClaim := { program := "ytdmfnlhbddejiaa", sum := "d820e38a95d4b4b7f97c76aa6bb83abd12fef658ba8e33a10c5f4342347972a0", func := "loop.example/pub-g01441/laws.FnUnionNone", spec := "fnUnionNone", unfollowed := true, recurses := true, apart := false }
def FnUnionNoneSaid : Prop := fnUnionNoneRow.holds Try.pinned (OpenSpec.ofChange fnUnionNoneSpec)

/-- ITS FALSE NEIGHBOUR: 'it returns false'. Refute it at one input. -/
def fnUnionNoneWrong : ChangeSpec := { name := "fnUnionNone", fn := fun _ => fun
  | [d1, d2] => { results := [.lit (.bool false)], args := [d1, d2] }
  | _ => none }
def FnUnionNoneWrongFalsely : Prop := fnUnionNoneRow.holds Try.pinned (OpenSpec.ofChange fnUnionNoneWrong)

/-- 'laws.FnInserts': WHATEVER THE INPUT: true; the input reads as it did. -/
def fnInsertsSpec : ChangeSpec := { name := "fnInserts", fn := fun _ => fun
  | [d1, d2] => { results := [.lit (.bool true)], args := [d1, d2] }
  | _ => none }
def fnInsertsRow : OpenClaim := { program := "ytdmfnlhbddejiaa", sum := "d820e38a95d4b4b7f97c76aa6bb83abd12fef658ba8e33a10c5f4342347972a0", func := "loop.example/pub-g01441/laws.FnInserts", spec := "fnInserts", unfollowed := true, recurses := true, apart := false }
def FnInsertsSaid : Prop := fnInsertsRow.holds Try.pinned (OpenSpec.ofChange fnInsertsSpec)

/-- ITS FALSE NEIGHBOUR: 'it returns false'. Refute it at one input. -/
def fnInsertsWrong : ChangeSpec := { name := "fnInserts", fn := fun _ => fun
  | [d1, d2] => { results := [.lit (.bool false)], args := [d1, d2] }
  | _ => none }
def FnInsertsWrongFalsely : Prop := fnInsertsRow.holds Try.pinned (OpenSpec.ofChange fnInsertsWrong)

/-- 'laws.FnAssociative': WHATEVER THE INPUT: true; the input reads as it did. -/
def fnAssociativeSpec : ChangeSpec := { name := "fnAssociative", fn := fun _ => fun
  | [d1, d2, d3] => { results := [.lit (.bool true)], args := [d1, d2, d3] }
  | _ => none }
def fnAssociativeRow : OpenClaim := { program := "ytdmfnlhbddejiaa", sum := "d820e38a95d4b4b7f97c76aa6bb83abd12fef658ba8e33a10c5f4342347972a0", func := "loop.example/pub-g01441/laws.FnAssociative", spec := "fnAssociative", unfollowed := true, recurses := true, apart := false }
def FnAssociativeSaid : Prop := fnAssociativeRow.holds Try.pinned (OpenSpec.ofChange fnAssociativeSpec)

/-- ITS FALSE NEIGHBOUR: 'it returns false'. Refute it at one input. -/
def fnAssociativeWrong : ChangeSpec := { name := "fnAssociative", fn := fun _ => fun
  | [d1, d2, d3] => { results := [.lit (.bool false)], args := [d1, d2, d3] }
  | _ => none }
def FnAssociativeWrongFalsely : Prop := fnAssociativeRow.holds Try.pinned (OpenSpec.ofChange fnAssociativeWrong)

/-- 'laws.FnSwapped': WHATEVER THE INPUT: true; the input reads as it did. -/
def fnSwappedSpec : ChangeSpec := { name := "fnSwapped", fn := fun _ => fun
  | [d1, d2, d3] => { results := [.lit (.bool true)], args := [d1, d2, d3] }
  | _ => none }
def fnSwappedRow : OpenClaim := { program := "ytdmfnlhbddejiaa", sum := "d820e38a95d4b4b7f97c76aa6bb83abd12fef658ba8e33a10c5f4342347972a0", func := "loop.example/pub-g01441/laws.FnSwapped", spec := "fnSwapped", unfollowed := true, recurses := true, apart := false }
def FnSwappedSaid : Prop := fnSwappedRow.holds Try.pinned (OpenSpec.ofChange fnSwappedSpec)

/-- ITS FALSE NEIGHBOUR: 'it returns false'. Refute it at one input. -/
def fnSwappedWrong : ChangeSpec := { name := "fnSwapped", fn := fun _ => fun
  | [d1, d2, d3] => { results := [.lit (.bool false)], args := [d1, d2, d3] }
  | _ => none }
def FnSwappedWrongFalsely : Prop := fnSwappedRow.holds Try.pinned (OpenSpec.ofChange fnSwappedWrong)

/-- 'laws.FnAbsorbed': WHATEVER THE INPUT: true; the input reads as it did. -/
def fnAbsorbedSpec : ChangeSpec := { name := "fnAbsorbed", fn := fun _ => fun
  | [d1, d2] => { results := [.lit (.bool true)], args := [d1, d2] }
  | _ => none }
def fnAbsorbedRow : OpenClaim := { program := "ytdmfnlhbddejiaa", sum := "d820e38a95d4b4b7f97c76aa6bb83abd12fef658ba8e33a10c5f4342347972a0", func := "loop.example/pub-g01441/laws.FnAbsorbed", spec := "fnAbsorbed", unfollowed := true, recurses := true, apart := false }
def FnAbsorbedSaid : Prop := fnAbsorbedRow.holds Try.pinned (OpenSpec.ofChange fnAbsorbedSpec)

/-- ITS FALSE NEIGHBOUR: 'it returns false'. Refute it at one input. -/
def fnAbsorbedWrong : ChangeSpec := { name := "fnAbsorbed", fn := fun _ => fun
  | [d1, d2] => { results := [.lit (.bool false)], args := [d1, d2] }
  | _ => none }
def FnAbsorbedWrongFalsely : Prop := fnAbsorbedRow.holds Try.pinned (OpenSpec.ofChange fnAbsorbedWrong)

/-- 'laws.FnDistributive': WHATEVER THE INPUT: true; the input reads as it did. -/
def fnDistributiveSpec : ChangeSpec := { name := "fnDistributive", fn := fun _ => fun
  | [d1, d2, d3] => { results := [.lit (.bool true)], args := [d1, d2, d3] }
  | _ => none }
def fnDistributiveRow : OpenClaim := { program := "ytdmfnlhbddejiaa", sum := "d820e38a95d4b4b7f97c76aa6bb83abd12fef658ba8e33a10c5f4342347972a0", func := "loop.example/pub-g01441/laws.FnDistributive", spec := "fnDistributive", unfollowed := true, recurses := true, apart := false }
def FnDistributiveSaid : Prop := fnDistributiveRow.holds Try.pinned (OpenSpec.ofChange fnDistributiveSpec)

/-- ITS FALSE NEIGHBOUR: 'it returns false'. Refute it at one input. -/
def fnDistributiveWrong : ChangeSpec := { name := "fnDistributive", fn := fun _ => fun
  | [d1, d2, d3] => { results := [.lit (.bool false)], args := [d1, d2, d3] }
  | _ => none }
def FnDistributiveWrongFalsely : Prop := fnDistributiveRow.holds Try.pinned (OpenSpec.ofChange fnDistributiveWrong)

/-- 'laws.FnParts': WHATEVER THE INPUT: true; the input reads as it did. -/
def fnPartsSpec : ChangeSpec := { name := "fnParts", fn := fun _ => fun
  | [d1, d2, d3] => { results := [.lit (.bool true)], args := [d1, d2, d3] }
  | _ => none }
def fnPartsRow : OpenClaim := { program := "ytdmfnlhbddejiaa", sum := "d820e38a95d4b4b7f97c76aa6bb83abd12fef658ba8e33a10c5f4342347972a0", func := "loop.example/pub-g01441/laws.FnParts", spec := "fnParts", unfollowed := true, recurses := true, apart := false }
def FnPartsSaid : Prop := fnPartsRow.holds Try.pinned (OpenSpec.ofChange fnPartsSpec)

/-- ITS FALSE NEIGHBOUR: 'it returns false'. Refute it at one input. -/
def fnPartsWrong : ChangeSpec := { name := "fnParts", fn := fun _ => fun
  | [d1, d2, d3] => { results := [.lit (.bool false)], args := [d1, d2, d3] }
  | _ => none }
def FnPartsWrongFalsely : Prop := fnPartsRow.holds Try.pinned (OpenSpec.ofChange fnPartsWrong)

/- THE SECOND FORM. 'bulk': how many values and letters a reading holds, each counted each time it is reached (what is shared counts as often as it is met; a slice's spare places count too). A statement '..UptoSaid' is the law's where the arguments, and the package variables that the reading takes, are together of bulk at most 1048576: NARROWER than '..Said'. Prove '..Said' where nothing that the law and all that it calls make is longer than what came in: it says more and counts as full. Else prove '..UptoSaid'. A law counts once. -/
mutual
def uptoBulk {H : Type} : DataW H → Nat
  | .lit (.string bytes) => bytes.length + 1
  | .lit _ => 1
  | .nil => 1
  | .ptr d => uptoBulk d + 1
  | .slice elems spare => uptoBulkAll elems + uptoBulkAll spare + 1
  | .agg parts => uptoBulkAll parts + 1
  | .iface _ d => uptoBulk d + 1
  | .map entries => uptoBulkEntries entries + 1
  | .held _ => 1
def uptoBulkAll {H : Type} : List (DataW H) → Nat
  | [] => 0
  | d :: r => uptoBulk d + uptoBulkAll r
def uptoBulkEntries {H : Type} : List (Lit × DataW H) → Nat
  | [] => 0
  | x :: r => uptoBulkEntry x + uptoBulkEntries r
def uptoBulkEntry {H : Type} : Lit × DataW H → Nat
  | (.string bytes, d) => bytes.length + uptoBulk d + 1
  | (_, d) => uptoBulk d + 1
 end
def uptoSmall : (H : Type) → List (DataW H) → Bool := fun _ ds => decide (uptoBulkAll ds ≤ 1048576)
def OpenSpec.upto (s : _root_.Go.ChangeSpec) : _root_.Go.OpenSpec := { _root_.Go.OpenSpec.ofChange s with cond := some uptoSmall }

/-- 'laws.FnDifference', WHERE WHAT IT READS IS OF BULK AT MOST 1048576: true; the input reads as it did. -/
def fnDifferenceUptoRow : OpenClaim := { program := "ytdmfnlhbddejiaa", sum := "d820e38a95d4b4b7f97c76aa6bb83abd12fef658ba8e33a10c5f4342347972a0", func := "loop.example/pub-g01441/laws.FnDifference", spec := "fnDifference", unfollowed := true, recurses := true, apart := false, narrowed := true }
def FnDifferenceUptoSaid : Prop := fnDifferenceUptoRow.holds Try.pinned (OpenSpec.upto fnDifferenceSpec)

/-- 'laws.FnDifferenceOrder', WHERE WHAT IT READS IS OF BULK AT MOST 1048576: true; the input reads as it did. -/
def fnDifferenceOrderUptoRow : OpenClaim := { program := "ytdmfnlhbddejiaa", sum := "d820e38a95d4b4b7f97c76aa6bb83abd12fef658ba8e33a10c5f4342347972a0", func := "loop.example/pub-g01441/laws.FnDifferenceOrder", spec := "fnDifferenceOrder", unfollowed := true, recurses := true, apart := false, narrowed := true }
def FnDifferenceOrderUptoSaid : Prop := fnDifferenceOrderUptoRow.holds Try.pinned (OpenSpec.upto fnDifferenceOrderSpec)

/-- 'laws.FnIntersection', WHERE WHAT IT READS IS OF BULK AT MOST 1048576: true; the input reads as it did. -/
def fnIntersectionUptoRow : OpenClaim := { program := "ytdmfnlhbddejiaa", sum := "d820e38a95d4b4b7f97c76aa6bb83abd12fef658ba8e33a10c5f4342347972a0", func := "loop.example/pub-g01441/laws.FnIntersection", spec := "fnIntersection", unfollowed := true, recurses := true, apart := false, narrowed := true }
def FnIntersectionUptoSaid : Prop := fnIntersectionUptoRow.holds Try.pinned (OpenSpec.upto fnIntersectionSpec)

/-- 'laws.FnIntersectionNone', WHERE WHAT IT READS IS OF BULK AT MOST 1048576: true; the input reads as it did. -/
def fnIntersectionNoneUptoRow : OpenClaim := { program := "ytdmfnlhbddejiaa", sum := "d820e38a95d4b4b7f97c76aa6bb83abd12fef658ba8e33a10c5f4342347972a0", func := "loop.example/pub-g01441/laws.FnIntersectionNone", spec := "fnIntersectionNone", unfollowed := true, recurses := true, apart := false, narrowed := true }
def FnIntersectionNoneUptoSaid : Prop := fnIntersectionNoneUptoRow.holds Try.pinned (OpenSpec.upto fnIntersectionNoneSpec)

/-- 'laws.FnUnion', WHERE WHAT IT READS IS OF BULK AT MOST 1048576: true; the input reads as it did. -/
def fnUnionUptoRow : OpenClaim := { program := "ytdmfnlhbddejiaa", sum := "d820e38a95d4b4b7f97c76aa6bb83abd12fef658ba8e33a10c5f4342347972a0", func := "loop.example/pub-g01441/laws.FnUnion", spec := "fnUnion", unfollowed := true, recurses := true, apart := false, narrowed := true }
def FnUnionUptoSaid : Prop := fnUnionUptoRow.holds Try.pinned (OpenSpec.upto fnUnionSpec)

/-- 'laws.FnUnionNone', WHERE WHAT IT READS IS OF BULK AT MOST 1048576: true; the input reads as it did. -/
def fnUnionNoneUptoRow : OpenClaim := { program := "ytdmfnlhbddejiaa", sum := "d820e38a95d4b4b7f97c76aa6bb83abd12fef658ba8e33a10c5f4342347972a0", func := "loop.example/pub-g01441/laws.FnUnionNone", spec := "fnUnionNone", unfollowed := true, recurses := true, apart := false, narrowed := true }
def FnUnionNoneUptoSaid : Prop := fnUnionNoneUptoRow.holds Try.pinned (OpenSpec.upto fnUnionNoneSpec)

/-- 'laws.FnInserts', WHERE WHAT IT READS IS OF BULK AT MOST 1048576: true; the input reads as it did. -/
def fnInsertsUptoRow : OpenClaim := { program := "ytdmfnlhbddejiaa", sum := "d820e38a95d4b4b7f97c76aa6bb83abd12fef658ba8e33a10c5f4342347972a0", func := "loop.example/pub-g01441/laws.FnInserts", spec := "fnInserts", unfollowed := true, recurses := true, apart := false, narrowed := true }
def FnInsertsUptoSaid : Prop := fnInsertsUptoRow.holds Try.pinned (OpenSpec.upto fnInsertsSpec)

/-- 'laws.FnAssociative', WHERE WHAT IT READS IS OF BULK AT MOST 1048576: true; the input reads as it did. -/
def fnAssociativeUptoRow : OpenClaim := { program := "ytdmfnlhbddejiaa", sum := "d820e38a95d4b4b7f97c76aa6bb83abd12fef658ba8e33a10c5f4342347972a0", func := "loop.example/pub-g01441/laws.FnAssociative", spec := "fnAssociative", unfollowed := true, recurses := true, apart := false, narrowed := true }
def FnAssociativeUptoSaid : Prop := fnAssociativeUptoRow.holds Try.pinned (OpenSpec.upto fnAssociativeSpec)

/-- 'laws.FnSwapped', WHERE WHAT IT READS IS OF BULK AT MOST 1048576: true; the input reads as it did. -/
def fnSwappedUptoRow : OpenClaim := { program := "ytdmfnlhbddejiaa", sum := "d820e38a95d4b4b7f97c76aa6bb83abd12fef658ba8e33a10c5f4342347972a0", func := "loop.example/pub-g01441/laws.FnSwapped", spec := "fnSwapped", unfollowed := true, recurses := true, apart := false, narrowed := true }
def FnSwappedUptoSaid : Prop := fnSwappedUptoRow.holds Try.pinned (OpenSpec.upto fnSwappedSpec)

/-- 'laws.FnAbsorbed', WHERE WHAT IT READS IS OF BULK AT MOST 1048576: true; the input reads as it did. -/
def fnAbsorbedUptoRow : OpenClaim := { program := "ytdmfnlhbddejiaa", sum := "d820e38a95d4b4b7f97c76aa6bb83abd12fef658ba8e33a10c5f4342347972a0", func := "loop.example/pub-g01441/laws.FnAbsorbed", spec := "fnAbsorbed", unfollowed := true, recurses := true, apart := false, narrowed := true }
def FnAbsorbedUptoSaid : Prop := fnAbsorbedUptoRow.holds Try.pinned (OpenSpec.upto fnAbsorbedSpec)

/-- 'laws.FnDistributive', WHERE WHAT IT READS IS OF BULK AT MOST 1048576: true; the input reads as it did. -/
def fnDistributiveUptoRow : OpenClaim := { program := "ytdmfnlhbddejiaa", sum := "d820e38a95d4b4b7f97c76aa6bb83abd12fef658ba8e33a10c5f4342347972a0", func := "loop.example/pub-g01441/laws.FnDistributive", spec := "fnDistributive", unfollowed := true, recurses := true, apart := false, narrowed := true }
def FnDistributiveUptoSaid : Prop := fnDistributiveUptoRow.holds Try.pinned (OpenSpec.upto fnDistributiveSpec)

/-- 'laws.FnParts', WHERE WHAT IT READS IS OF BULK AT MOST 1048576: true; the input reads as it did. -/
def fnPartsUptoRow : OpenClaim := { program := "ytdmfnlhbddejiaa", sum := "d820e38a95d4b4b7f97c76aa6bb83abd12fef658ba8e33a10c5f4342347972a0", func := "loop.example/pub-g01441/laws.FnParts", spec := "fnParts", unfollowed := true, recurses := true, apart := false, narrowed := true }
def FnPartsUptoSaid : Prop := fnPartsUptoRow.holds Try.pinned (OpenSpec.upto fnPartsSpec)

end Rows
end Go.Proofs.Ytdmfnlhbddejiaa
