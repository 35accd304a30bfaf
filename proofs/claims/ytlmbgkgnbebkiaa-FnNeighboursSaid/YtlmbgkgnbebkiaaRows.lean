/-
  No cell of these rows narrows 'for every input' (looked for: loops, veiled, ifaces, maps, wideKeys, modest, calm, conditions, laid).
  DERIVED. THE GIVEN ROWS OF THIS SEAT. 12 by the template 'for every input the law returns true; each argument reads behind the call as it read before'; 0 by the template 'total and deterministic' (their statements: YtlmbgkgnbebkiaaTotals.lean).
  GIVEN WITH THE SEED: the statements are not yours to turn. If you find one false, say at which input.
  Laid BY PROGRAM, IN A SANDBOX (cutbox-rows.mjs): the forced cells as the released guide's own fill.sh prints them over the translation 2c82d20e33d45e57… (all of the seat's roots in one cut). By AI agents, Wed Nov 11 2026. No macro, syntax, notation, axiom, sorry.
-/
import Derived.Test.YtlmbgkgnbebkiaaChecked
import GoSem.Claim
import GoSem.ClaimJoined
import GoSem.ClaimMapViews
import Derived.JoinedTies
import Derived.KernelRfl
namespace Go.Proofs.Ytlmbgkgnbebkiaa
/- THE CELL 'sum', in the pinned program and in every row, IS THE sha256 OF THE DUMP (.gsa) THAT YtlmbgkgnbebkiaaProg.lean LOADS. Nothing in Lean hashes anything: it is a label: what it is worth is what the hold of that sum in a sandbox is worth. -/
noncomputable def Try.pinned : Pinned := { name := "ytlmbgkgnbebkiaa", sum := "2c82d20e33d45e5759d3c1b3aa9258594b92ed58f1eb4b9b3966c3e1de6f9a1d", checked := Try.checked }
namespace Rows
def none {H : Type} : Left H := { results := [], args := [] }

/-- 'laws.FnEquals': WHATEVER THE INPUT: true; the input reads as it did. -/
def fnEqualsSpec : ChangeSpec := { name := "fnEquals", fn := fun _ => fun
  | [d1, d2] => { results := [.lit (.bool true)], args := [d1, d2] }
  | _ => none }
def fnEqualsRow : OpenClaim := { program := "ytlmbgkgnbebkiaa", sum := "2c82d20e33d45e5759d3c1b3aa9258594b92ed58f1eb4b9b3966c3e1de6f9a1d", func := "loop.example/pub-g01441/laws.FnEquals", spec := "fnEquals", recurses := true, apart := false }
def FnEqualsSaid : Prop := fnEqualsRow.holds Try.pinned (OpenSpec.ofChange fnEqualsSpec)

/-- ITS FALSE NEIGHBOUR: 'it returns false'. Refute it at one input. -/
def fnEqualsWrong : ChangeSpec := { name := "fnEquals", fn := fun _ => fun
  | [d1, d2] => { results := [.lit (.bool false)], args := [d1, d2] }
  | _ => none }
def FnEqualsWrongFalsely : Prop := fnEqualsRow.holds Try.pinned (OpenSpec.ofChange fnEqualsWrong)

/-- 'laws.FnIterate': WHATEVER THE INPUT: true; the input reads as it did. -/
def fnIterateSpec : ChangeSpec := { name := "fnIterate", fn := fun _ => fun
  | [d1, d2] => { results := [.lit (.bool true)], args := [d1, d2] }
  | _ => none }
def fnIterateRow : OpenClaim := { program := "ytlmbgkgnbebkiaa", sum := "2c82d20e33d45e5759d3c1b3aa9258594b92ed58f1eb4b9b3966c3e1de6f9a1d", func := "loop.example/pub-g01441/laws.FnIterate", spec := "fnIterate", recurses := true, apart := false }
def FnIterateSaid : Prop := fnIterateRow.holds Try.pinned (OpenSpec.ofChange fnIterateSpec)

/-- ITS FALSE NEIGHBOUR: 'it returns false'. Refute it at one input. -/
def fnIterateWrong : ChangeSpec := { name := "fnIterate", fn := fun _ => fun
  | [d1, d2] => { results := [.lit (.bool false)], args := [d1, d2] }
  | _ => none }
def FnIterateWrongFalsely : Prop := fnIterateRow.holds Try.pinned (OpenSpec.ofChange fnIterateWrong)

/-- 'laws.FnWalk': WHATEVER THE INPUT: true; the input reads as it did. -/
def fnWalkSpec : ChangeSpec := { name := "fnWalk", fn := fun _ => fun
  | [d] => { results := [.lit (.bool true)], args := [d] }
  | _ => none }
def fnWalkRow : OpenClaim := { program := "ytlmbgkgnbebkiaa", sum := "2c82d20e33d45e5759d3c1b3aa9258594b92ed58f1eb4b9b3966c3e1de6f9a1d", func := "loop.example/pub-g01441/laws.FnWalk", spec := "fnWalk", recurses := true, apart := false }
def FnWalkSaid : Prop := fnWalkRow.holds Try.pinned (OpenSpec.ofChange fnWalkSpec)

/-- ITS FALSE NEIGHBOUR: 'it returns false'. Refute it at one input. -/
def fnWalkWrong : ChangeSpec := { name := "fnWalk", fn := fun _ => fun
  | [d] => { results := [.lit (.bool false)], args := [d] }
  | _ => none }
def FnWalkWrongFalsely : Prop := fnWalkRow.holds Try.pinned (OpenSpec.ofChange fnWalkWrong)

/-- 'laws.FnDrain': WHATEVER THE INPUT: true; the input reads as it did. -/
def fnDrainSpec : ChangeSpec := { name := "fnDrain", fn := fun _ => fun
  | [d1, d2] => { results := [.lit (.bool true)], args := [d1, d2] }
  | _ => none }
def fnDrainRow : OpenClaim := { program := "ytlmbgkgnbebkiaa", sum := "2c82d20e33d45e5759d3c1b3aa9258594b92ed58f1eb4b9b3966c3e1de6f9a1d", func := "loop.example/pub-g01441/laws.FnDrain", spec := "fnDrain", recurses := true, apart := false }
def FnDrainSaid : Prop := fnDrainRow.holds Try.pinned (OpenSpec.ofChange fnDrainSpec)

/-- ITS FALSE NEIGHBOUR: 'it returns false'. Refute it at one input. -/
def fnDrainWrong : ChangeSpec := { name := "fnDrain", fn := fun _ => fun
  | [d1, d2] => { results := [.lit (.bool false)], args := [d1, d2] }
  | _ => none }
def FnDrainWrongFalsely : Prop := fnDrainRow.holds Try.pinned (OpenSpec.ofChange fnDrainWrong)

/-- 'laws.FnEquiv': WHATEVER THE INPUT: true; the input reads as it did. -/
def fnEquivSpec : ChangeSpec := { name := "fnEquiv", fn := fun _ => fun
  | [d1, d2, d3] => { results := [.lit (.bool true)], args := [d1, d2, d3] }
  | _ => none }
def fnEquivRow : OpenClaim := { program := "ytlmbgkgnbebkiaa", sum := "2c82d20e33d45e5759d3c1b3aa9258594b92ed58f1eb4b9b3966c3e1de6f9a1d", func := "loop.example/pub-g01441/laws.FnEquiv", spec := "fnEquiv", unfollowed := true, recurses := true, apart := false }
def FnEquivSaid : Prop := fnEquivRow.holds Try.pinned (OpenSpec.ofChange fnEquivSpec)

/-- ITS FALSE NEIGHBOUR: 'it returns false'. Refute it at one input. -/
def fnEquivWrong : ChangeSpec := { name := "fnEquiv", fn := fun _ => fun
  | [d1, d2, d3] => { results := [.lit (.bool false)], args := [d1, d2, d3] }
  | _ => none }
def FnEquivWrongFalsely : Prop := fnEquivRow.holds Try.pinned (OpenSpec.ofChange fnEquivWrong)

/-- 'laws.FnOrderFree': WHATEVER THE INPUT: true; the input reads as it did. -/
def fnOrderFreeSpec : ChangeSpec := { name := "fnOrderFree", fn := fun _ => fun
  | [d1, d2] => { results := [.lit (.bool true)], args := [d1, d2] }
  | _ => none }
def fnOrderFreeRow : OpenClaim := { program := "ytlmbgkgnbebkiaa", sum := "2c82d20e33d45e5759d3c1b3aa9258594b92ed58f1eb4b9b3966c3e1de6f9a1d", func := "loop.example/pub-g01441/laws.FnOrderFree", spec := "fnOrderFree", unfollowed := true, recurses := true, apart := false }
def FnOrderFreeSaid : Prop := fnOrderFreeRow.holds Try.pinned (OpenSpec.ofChange fnOrderFreeSpec)

/-- ITS FALSE NEIGHBOUR: 'it returns false'. Refute it at one input. -/
def fnOrderFreeWrong : ChangeSpec := { name := "fnOrderFree", fn := fun _ => fun
  | [d1, d2] => { results := [.lit (.bool false)], args := [d1, d2] }
  | _ => none }
def FnOrderFreeWrongFalsely : Prop := fnOrderFreeRow.holds Try.pinned (OpenSpec.ofChange fnOrderFreeWrong)

/-- 'laws.FnNeighbours': WHATEVER THE INPUT: true; the input reads as it did. -/
def fnNeighboursSpec : ChangeSpec := { name := "fnNeighbours", fn := fun _ => fun
  | [d1, d2] => { results := [.lit (.bool true)], args := [d1, d2] }
  | _ => none }
def fnNeighboursRow : OpenClaim := { program := "ytlmbgkgnbebkiaa", sum := "2c82d20e33d45e5759d3c1b3aa9258594b92ed58f1eb4b9b3966c3e1de6f9a1d", func := "loop.example/pub-g01441/laws.FnNeighbours", spec := "fnNeighbours", recurses := true, apart := false }
def FnNeighboursSaid : Prop := fnNeighboursRow.holds Try.pinned (OpenSpec.ofChange fnNeighboursSpec)

/-- ITS FALSE NEIGHBOUR: 'it returns false'. Refute it at one input. -/
def fnNeighboursWrong : ChangeSpec := { name := "fnNeighbours", fn := fun _ => fun
  | [d1, d2] => { results := [.lit (.bool false)], args := [d1, d2] }
  | _ => none }
def FnNeighboursWrongFalsely : Prop := fnNeighboursRow.holds Try.pinned (OpenSpec.ofChange fnNeighboursWrong)

/-- 'laws.FnThereAndBack': WHATEVER THE INPUT: true; the input reads as it did. -/
def fnThereAndBackSpec : ChangeSpec := { name := "fnThereAndBack", fn := fun _ => fun
  | [d1, d2, d3] => { results := [.lit (.bool true)], args := [d1, d2, d3] }
  | _ => none }
def fnThereAndBackRow : OpenClaim := { program := "ytlmbgkgnbebkiaa", sum := "2c82d20e33d45e5759d3c1b3aa9258594b92ed58f1eb4b9b3966c3e1de6f9a1d", func := "loop.example/pub-g01441/laws.FnThereAndBack", spec := "fnThereAndBack", unfollowed := true, recurses := true, apart := false }
def FnThereAndBackSaid : Prop := fnThereAndBackRow.holds Try.pinned (OpenSpec.ofChange fnThereAndBackSpec)

/-- ITS FALSE NEIGHBOUR: 'it returns false'. Refute it at one input. -/
def fnThereAndBackWrong : ChangeSpec := { name := "fnThereAndBack", fn := fun _ => fun
  | [d1, d2, d3] => { results := [.lit (.bool false)], args := [d1, d2, d3] }
  | _ => none }
def FnThereAndBackWrongFalsely : Prop := fnThereAndBackRow.holds Try.pinned (OpenSpec.ofChange fnThereAndBackWrong)

/-- 'laws.FnCopies': WHATEVER THE INPUT: true; the input reads as it did. -/
def fnCopiesSpec : ChangeSpec := { name := "fnCopies", fn := fun _ => fun
  | [d] => { results := [.lit (.bool true)], args := [d] }
  | _ => none }
def fnCopiesRow : OpenClaim := { program := "ytlmbgkgnbebkiaa", sum := "2c82d20e33d45e5759d3c1b3aa9258594b92ed58f1eb4b9b3966c3e1de6f9a1d", func := "loop.example/pub-g01441/laws.FnCopies", spec := "fnCopies", unfollowed := true, recurses := true, apart := false }
def FnCopiesSaid : Prop := fnCopiesRow.holds Try.pinned (OpenSpec.ofChange fnCopiesSpec)

/-- ITS FALSE NEIGHBOUR: 'it returns false'. Refute it at one input. -/
def fnCopiesWrong : ChangeSpec := { name := "fnCopies", fn := fun _ => fun
  | [d] => { results := [.lit (.bool false)], args := [d] }
  | _ => none }
def FnCopiesWrongFalsely : Prop := fnCopiesRow.holds Try.pinned (OpenSpec.ofChange fnCopiesWrong)

/-- 'laws.FnInPlace': WHATEVER THE INPUT: true; the input reads as it did. -/
def fnInPlaceSpec : ChangeSpec := { name := "fnInPlace", fn := fun _ => fun
  | [d] => { results := [.lit (.bool true)], args := [d] }
  | _ => none }
def fnInPlaceRow : OpenClaim := { program := "ytlmbgkgnbebkiaa", sum := "2c82d20e33d45e5759d3c1b3aa9258594b92ed58f1eb4b9b3966c3e1de6f9a1d", func := "loop.example/pub-g01441/laws.FnInPlace", spec := "fnInPlace", unfollowed := true, recurses := true, apart := false }
def FnInPlaceSaid : Prop := fnInPlaceRow.holds Try.pinned (OpenSpec.ofChange fnInPlaceSpec)

/-- ITS FALSE NEIGHBOUR: 'it returns false'. Refute it at one input. -/
def fnInPlaceWrong : ChangeSpec := { name := "fnInPlace", fn := fun _ => fun
  | [d] => { results := [.lit (.bool false)], args := [d] }
  | _ => none }
def FnInPlaceWrongFalsely : Prop := fnInPlaceRow.holds Try.pinned (OpenSpec.ofChange fnInPlaceWrong)

/-- 'laws.FnIterateOn': WHATEVER THE INPUT: true; the input reads as it did. -/
def fnIterateOnSpec : ChangeSpec := { name := "fnIterateOn", fn := fun _ => fun
  | [d1, d2] => { results := [.lit (.bool true)], args := [d1, d2] }
  | _ => none }
def fnIterateOnRow : OpenClaim := { program := "ytlmbgkgnbebkiaa", sum := "2c82d20e33d45e5759d3c1b3aa9258594b92ed58f1eb4b9b3966c3e1de6f9a1d", func := "loop.example/pub-g01441/laws.FnIterateOn", spec := "fnIterateOn", unfollowed := true, recurses := true, apart := false }
def FnIterateOnSaid : Prop := fnIterateOnRow.holds Try.pinned (OpenSpec.ofChange fnIterateOnSpec)

/-- ITS FALSE NEIGHBOUR: 'it returns false'. Refute it at one input. -/
def fnIterateOnWrong : ChangeSpec := { name := "fnIterateOn", fn := fun _ => fun
  | [d1, d2] => { results := [.lit (.bool false)], args := [d1, d2] }
  | _ => none }
def FnIterateOnWrongFalsely : Prop := fnIterateOnRow.holds Try.pinned (OpenSpec.ofChange fnIterateOnWrong)

/-- 'laws.FnMatches': WHATEVER THE INPUT: true; the input reads as it did. -/
def fnMatchesSpec : ChangeSpec := { name := "fnMatches", fn := fun _ => fun
  | [d] => { results := [.lit (.bool true)], args := [d] }
  | _ => none }
def fnMatchesRow : OpenClaim := { program := "ytlmbgkgnbebkiaa", sum := "2c82d20e33d45e5759d3c1b3aa9258594b92ed58f1eb4b9b3966c3e1de6f9a1d", func := "loop.example/pub-g01441/laws.FnMatches", spec := "fnMatches", unfollowed := true, recurses := true, apart := false }
def FnMatchesSaid : Prop := fnMatchesRow.holds Try.pinned (OpenSpec.ofChange fnMatchesSpec)

/-- ITS FALSE NEIGHBOUR: 'it returns false'. Refute it at one input. -/
def fnMatchesWrong : ChangeSpec := { name := "fnMatches", fn := fun _ => fun
  | [d] => { results := [.lit (.bool false)], args := [d] }
  | _ => none }
def FnMatchesWrongFalsely : Prop := fnMatchesRow.holds Try.pinned (OpenSpec.ofChange fnMatchesWrong)

/- THE SECOND FORM. 'bulk': how many values and letters a reading holds, each counted each time it is reached (what is shared counts as often as it is met; a slice's spare places count too). A statement '..UptoSaid' is the law's where the arguments, and the package variables that the reading takes, are together of bulk at most 1048576: NARROWER than '..Said'. Prove '..Said' where nothing that the law and all that it calls make is longer than what came in: it says more and counts as full. Else prove '..UptoSaid'. A law counts once. -/
mutual
def uptoBulk {H : Type} : DataW H → Nat
  | .lit (.string bytes) => bytes.length + 1
  | .lit _ => 1
  | .nil => 1
  | .ptr d => uptoBulk d + 1
  | .slice elems spare => uptoBulkAll elems + uptoBulkAll spare + 1
  | .agg parts => uptoBulkAll parts + 1
  | .iface _ d => uptoBulk d + 1
  | .map entries => uptoBulkEntries entries + 1
  | .held _ => 1
def uptoBulkAll {H : Type} : List (DataW H) → Nat
  | [] => 0
  | d :: r => uptoBulk d + uptoBulkAll r
def uptoBulkEntries {H : Type} : List (Lit × DataW H) → Nat
  | [] => 0
  | x :: r => uptoBulkEntry x + uptoBulkEntries r
def uptoBulkEntry {H : Type} : Lit × DataW H → Nat
  | (.string bytes, d) => bytes.length + uptoBulk d + 1
  | (_, d) => uptoBulk d + 1
 end
def uptoSmall : (H : Type) → List (DataW H) → Bool := fun _ ds => decide (uptoBulkAll ds ≤ 1048576)
def OpenSpec.upto (s : _root_.Go.ChangeSpec) : _root_.Go.OpenSpec := { _root_.Go.OpenSpec.ofChange s with cond := some uptoSmall }

/-- 'laws.FnEquals', WHERE WHAT IT READS IS OF BULK AT MOST 1048576: true; the input reads as it did. -/
def fnEqualsUptoRow : OpenClaim := { program := "ytlmbgkgnbebkiaa", sum := "2c82d20e33d45e5759d3c1b3aa9258594b92ed58f1eb4b9b3966c3e1de6f9a1d", func := "loop.example/pub-g01441/laws.FnEquals", spec := "fnEquals", recurses := true, apart := false, narrowed := true }
def FnEqualsUptoSaid : Prop := fnEqualsUptoRow.holds Try.pinned (OpenSpec.upto fnEqualsSpec)

/-- 'laws.FnIterate', WHERE WHAT IT READS IS OF BULK AT MOST 1048576: true; the input reads as it did. -/
def fnIterateUptoRow : OpenClaim := { program := "ytlmbgkgnbebkiaa", sum := "2c82d20e33d45e5759d3c1b3aa9258594b92ed58f1eb4b9b3966c3e1de6f9a1d", func := "loop.example/pub-g01441/laws.FnIterate", spec := "fnIterate", recurses := true, apart := false, narrowed := true }
def FnIterateUptoSaid : Prop := fnIterateUptoRow.holds Try.pinned (OpenSpec.upto fnIterateSpec)

/-- 'laws.FnWalk', WHERE WHAT IT READS IS OF BULK AT MOST 1048576: true; the input reads as it did. -/
def fnWalkUptoRow : OpenClaim := { program := "ytlmbgkgnbebkiaa", sum := "2c82d20e33d45e5759d3c1b3aa9258594b92ed58f1eb4b9b3966c3e1de6f9a1d", func := "loop.example/pub-g01441/laws.FnWalk", spec := "fnWalk", recurses := true, apart := false, narrowed := true }
def FnWalkUptoSaid : Prop := fnWalkUptoRow.holds Try.pinned (OpenSpec.upto fnWalkSpec)

/-- 'laws.FnDrain', WHERE WHAT IT READS IS OF BULK AT MOST 1048576: true; the input reads as it did. -/
def fnDrainUptoRow : OpenClaim := { program := "ytlmbgkgnbebkiaa", sum := "2c82d20e33d45e5759d3c1b3aa9258594b92ed58f1eb4b9b3966c3e1de6f9a1d", func := "loop.example/pub-g01441/laws.FnDrain", spec := "fnDrain", recurses := true, apart := false, narrowed := true }
def FnDrainUptoSaid : Prop := fnDrainUptoRow.holds Try.pinned (OpenSpec.upto fnDrainSpec)

/-- 'laws.FnEquiv', WHERE WHAT IT READS IS OF BULK AT MOST 1048576: true; the input reads as it did. -/
def fnEquivUptoRow : OpenClaim := { program := "ytlmbgkgnbebkiaa", sum := "2c82d20e33d45e5759d3c1b3aa9258594b92ed58f1eb4b9b3966c3e1de6f9a1d", func := "loop.example/pub-g01441/laws.FnEquiv", spec := "fnEquiv", unfollowed := true, recurses := true, apart := false, narrowed := true }
def FnEquivUptoSaid : Prop := fnEquivUptoRow.holds Try.pinned (OpenSpec.upto fnEquivSpec)

/-- 'laws.FnOrderFree', WHERE WHAT IT READS IS OF BULK AT MOST 1048576: true; the input reads as it did. -/
def fnOrderFreeUptoRow : OpenClaim := { program := "ytlmbgkgnbebkiaa", sum := "2c82d20e33d45e5759d3c1b3aa9258594b92ed58f1eb4b9b3966c3e1de6f9a1d", func := "loop.example/pub-g01441/laws.FnOrderFree", spec := "fnOrderFree", unfollowed := true, recurses := true, apart := false, narrowed := true }
def FnOrderFreeUptoSaid : Prop := fnOrderFreeUptoRow.holds Try.pinned (OpenSpec.upto fnOrderFreeSpec)

/-- 'laws.FnNeighbours', WHERE WHAT IT READS IS OF BULK AT MOST 1048576: true; the input reads as it did. -/
def fnNeighboursUptoRow : OpenClaim := { program := "ytlmbgkgnbebkiaa", sum := "2c82d20e33d45e5759d3c1b3aa9258594b92ed58f1eb4b9b3966c3e1de6f9a1d", func := "loop.example/pub-g01441/laws.FnNeighbours", spec := "fnNeighbours", recurses := true, apart := false, narrowed := true }
def FnNeighboursUptoSaid : Prop := fnNeighboursUptoRow.holds Try.pinned (OpenSpec.upto fnNeighboursSpec)

/-- 'laws.FnThereAndBack', WHERE WHAT IT READS IS OF BULK AT MOST 1048576: true; the input reads as it did. -/
def fnThereAndBackUptoRow : OpenClaim := { program := "ytlmbgkgnbebkiaa", sum := "2c82d20e33d45e5759d3c1b3aa9258594b92ed58f1eb4b9b3966c3e1de6f9a1d", func := "loop.example/pub-g01441/laws.FnThereAndBack", spec := "fnThereAndBack", unfollowed := true, recurses := true, apart := false, narrowed := true }
def FnThereAndBackUptoSaid : Prop := fnThereAndBackUptoRow.holds Try.pinned (OpenSpec.upto fnThereAndBackSpec)

/-- 'laws.FnCopies', WHERE WHAT IT READS IS OF BULK AT MOST 1048576: true; the input reads as it did. -/
def fnCopiesUptoRow : OpenClaim := { program := "ytlmbgkgnbebkiaa", sum := "2c82d20e33d45e5759d3c1b3aa9258594b92ed58f1eb4b9b3966c3e1de6f9a1d", func := "loop.example/pub-g01441/laws.FnCopies", spec := "fnCopies", unfollowed := true, recurses := true, apart := false, narrowed := true }
def FnCopiesUptoSaid : Prop := fnCopiesUptoRow.holds Try.pinned (OpenSpec.upto fnCopiesSpec)

/-- 'laws.FnInPlace', WHERE WHAT IT READS IS OF BULK AT MOST 1048576: true; the input reads as it did. -/
def fnInPlaceUptoRow : OpenClaim := { program := "ytlmbgkgnbebkiaa", sum := "2c82d20e33d45e5759d3c1b3aa9258594b92ed58f1eb4b9b3966c3e1de6f9a1d", func := "loop.example/pub-g01441/laws.FnInPlace", spec := "fnInPlace", unfollowed := true, recurses := true, apart := false, narrowed := true }
def FnInPlaceUptoSaid : Prop := fnInPlaceUptoRow.holds Try.pinned (OpenSpec.upto fnInPlaceSpec)

/-- 'laws.FnIterateOn', WHERE WHAT IT READS IS OF BULK AT MOST 1048576: true; the input reads as it did. -/
def fnIterateOnUptoRow : OpenClaim := { program := "ytlmbgkgnbebkiaa", sum := "2c82d20e33d45e5759d3c1b3aa9258594b92ed58f1eb4b9b3966c3e1de6f9a1d", func := "loop.example/pub-g01441/laws.FnIterateOn", spec := "fnIterateOn", unfollowed := true, recurses := true, apart := false, narrowed := true }
def FnIterateOnUptoSaid : Prop := fnIterateOnUptoRow.holds Try.pinned (OpenSpec.upto fnIterateOnSpec)

/-- 'laws.FnMatches', WHERE WHAT IT READS IS OF BULK AT MOST 1048576: true; the input reads as it did. -/
def fnMatchesUptoRow : OpenClaim := { program := "ytlmbgkgnbebkiaa", sum := "2c82d20e33d45e5759d3c1b3aa9258594b92ed58f1eb4b9b3966c3e1de6f9a1d", func := "loop.example/pub-g01441/laws.FnMatches", spec := "fnMatches", unfollowed := true, recurses := true, apart := false, narrowed := true }
def FnMatchesUptoSaid : Prop := fnMatchesUptoRow.holds Try.pinned (OpenSpec.upto fnMatchesSpec)

end Rows
end Go.Proofs.Ytlmbgkgnbebkiaa
