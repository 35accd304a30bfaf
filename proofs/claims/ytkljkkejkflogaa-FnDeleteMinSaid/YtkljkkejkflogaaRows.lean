/-
  No cell of these rows narrows 'for every input' (looked for: loops, veiled, ifaces, maps, wideKeys, modest, calm, conditions, laid).
  DERIVED. THE GIVEN ROWS OF THIS SEAT. 12 by the template 'for every input the law returns true; each argument reads behind the call as it read before'; 0 by the template 'total and deterministic' (their statements: YtkljkkejkflogaaTotals.lean).
  GIVEN WITH THE SEED: the statements are not yours to turn. If you find one false, say at which input.
  Laid BY PROGRAM, IN A SANDBOX (cutbox-rows.mjs): the forced cells as the released guide's own fill.sh prints them over the translation c4781cb39c148e0d… (all of the seat's roots in one cut). By AI agents, Wed Nov 11 2026. No macro, syntax, notation, axiom, sorry.
-/
import Derived.Test.YtkljkkejkflogaaChecked
import GoSem.Claim
import GoSem.ClaimJoined
import GoSem.ClaimMapViews
import Derived.JoinedTies
import Derived.KernelRfl
namespace Go.Proofs.Ytkljkkejkflogaa
/- THE CELL 'sum', in the pinned program and in every row, IS THE sha256 OF THE DUMP (.gsa) THAT YtkljkkejkflogaaProg.lean LOADS. Nothing in Lean hashes anything: it is a label: what it is worth is what the hold of that sum in a sandbox is worth. -/
noncomputable def Try.pinned : Pinned := { name := "ytkljkkejkflogaa", sum := "c4781cb39c148e0d1175448b3db87b63668e45e51a8c5375d61666c1070cffb6", checked := Try.checked }
namespace Rows
def none {H : Type} : Left H := { results := [], args := [] }

/-- 'laws.FnGlbEq': WHATEVER THE INPUT: true; the input reads as it did. -/
def fnGlbEqSpec : ChangeSpec := { name := "fnGlbEq", fn := fun _ => fun
  | [d1, d2] => { results := [.lit (.bool true)], args := [d1, d2] }
  | _ => none }
def fnGlbEqRow : OpenClaim := { program := "ytkljkkejkflogaa", sum := "c4781cb39c148e0d1175448b3db87b63668e45e51a8c5375d61666c1070cffb6", func := "loop.example/pub-g01441/laws.FnGlbEq", spec := "fnGlbEq", recurses := true, apart := false }
def FnGlbEqSaid : Prop := fnGlbEqRow.holds Try.pinned (OpenSpec.ofChange fnGlbEqSpec)

/-- ITS FALSE NEIGHBOUR: 'it returns false'. Refute it at one input. -/
def fnGlbEqWrong : ChangeSpec := { name := "fnGlbEq", fn := fun _ => fun
  | [d1, d2] => { results := [.lit (.bool false)], args := [d1, d2] }
  | _ => none }
def FnGlbEqWrongFalsely : Prop := fnGlbEqRow.holds Try.pinned (OpenSpec.ofChange fnGlbEqWrong)

/-- 'laws.FnLub': WHATEVER THE INPUT: true; the input reads as it did. -/
def fnLubSpec : ChangeSpec := { name := "fnLub", fn := fun _ => fun
  | [d1, d2] => { results := [.lit (.bool true)], args := [d1, d2] }
  | _ => none }
def fnLubRow : OpenClaim := { program := "ytkljkkejkflogaa", sum := "c4781cb39c148e0d1175448b3db87b63668e45e51a8c5375d61666c1070cffb6", func := "loop.example/pub-g01441/laws.FnLub", spec := "fnLub", recurses := true, apart := false }
def FnLubSaid : Prop := fnLubRow.holds Try.pinned (OpenSpec.ofChange fnLubSpec)

/-- ITS FALSE NEIGHBOUR: 'it returns false'. Refute it at one input. -/
def fnLubWrong : ChangeSpec := { name := "fnLub", fn := fun _ => fun
  | [d1, d2] => { results := [.lit (.bool false)], args := [d1, d2] }
  | _ => none }
def FnLubWrongFalsely : Prop := fnLubRow.holds Try.pinned (OpenSpec.ofChange fnLubWrong)

/-- 'laws.FnLubEq': WHATEVER THE INPUT: true; the input reads as it did. -/
def fnLubEqSpec : ChangeSpec := { name := "fnLubEq", fn := fun _ => fun
  | [d1, d2] => { results := [.lit (.bool true)], args := [d1, d2] }
  | _ => none }
def fnLubEqRow : OpenClaim := { program := "ytkljkkejkflogaa", sum := "c4781cb39c148e0d1175448b3db87b63668e45e51a8c5375d61666c1070cffb6", func := "loop.example/pub-g01441/laws.FnLubEq", spec := "fnLubEq", recurses := true, apart := false }
def FnLubEqSaid : Prop := fnLubEqRow.holds Try.pinned (OpenSpec.ofChange fnLubEqSpec)

/-- ITS FALSE NEIGHBOUR: 'it returns false'. Refute it at one input. -/
def fnLubEqWrong : ChangeSpec := { name := "fnLubEq", fn := fun _ => fun
  | [d1, d2] => { results := [.lit (.bool false)], args := [d1, d2] }
  | _ => none }
def FnLubEqWrongFalsely : Prop := fnLubEqRow.holds Try.pinned (OpenSpec.ofChange fnLubEqWrong)

/-- 'laws.FnIterate': WHATEVER THE INPUT: true; the input reads as it did. -/
def fnIterateSpec : ChangeSpec := { name := "fnIterate", fn := fun _ => fun
  | [d1, d2] => { results := [.lit (.bool true)], args := [d1, d2] }
  | _ => none }
def fnIterateRow : OpenClaim := { program := "ytkljkkejkflogaa", sum := "c4781cb39c148e0d1175448b3db87b63668e45e51a8c5375d61666c1070cffb6", func := "loop.example/pub-g01441/laws.FnIterate", spec := "fnIterate", recurses := true, apart := false }
def FnIterateSaid : Prop := fnIterateRow.holds Try.pinned (OpenSpec.ofChange fnIterateSpec)

/-- ITS FALSE NEIGHBOUR: 'it returns false'. Refute it at one input. -/
def fnIterateWrong : ChangeSpec := { name := "fnIterate", fn := fun _ => fun
  | [d1, d2] => { results := [.lit (.bool false)], args := [d1, d2] }
  | _ => none }
def FnIterateWrongFalsely : Prop := fnIterateRow.holds Try.pinned (OpenSpec.ofChange fnIterateWrong)

/-- 'laws.FnAskedVersions': WHATEVER THE INPUT: true; the input reads as it did. -/
def fnAskedVersionsSpec : ChangeSpec := { name := "fnAskedVersions", fn := fun _ => fun
  | [d1, d2] => { results := [.lit (.bool true)], args := [d1, d2] }
  | _ => none }
def fnAskedVersionsRow : OpenClaim := { program := "ytkljkkejkflogaa", sum := "c4781cb39c148e0d1175448b3db87b63668e45e51a8c5375d61666c1070cffb6", func := "loop.example/pub-g01441/laws.FnAskedVersions", spec := "fnAskedVersions", unfollowed := true, recurses := true, apart := false }
def FnAskedVersionsSaid : Prop := fnAskedVersionsRow.holds Try.pinned (OpenSpec.ofChange fnAskedVersionsSpec)

/-- ITS FALSE NEIGHBOUR: 'it returns false'. Refute it at one input. -/
def fnAskedVersionsWrong : ChangeSpec := { name := "fnAskedVersions", fn := fun _ => fun
  | [d1, d2] => { results := [.lit (.bool false)], args := [d1, d2] }
  | _ => none }
def FnAskedVersionsWrongFalsely : Prop := fnAskedVersionsRow.holds Try.pinned (OpenSpec.ofChange fnAskedVersionsWrong)

/-- 'laws.FnEquals': WHATEVER THE INPUT: true; the input reads as it did. -/
def fnEqualsSpec : ChangeSpec := { name := "fnEquals", fn := fun _ => fun
  | [d1, d2] => { results := [.lit (.bool true)], args := [d1, d2] }
  | _ => none }
def fnEqualsRow : OpenClaim := { program := "ytkljkkejkflogaa", sum := "c4781cb39c148e0d1175448b3db87b63668e45e51a8c5375d61666c1070cffb6", func := "loop.example/pub-g01441/laws.FnEquals", spec := "fnEquals", recurses := true, apart := false }
def FnEqualsSaid : Prop := fnEqualsRow.holds Try.pinned (OpenSpec.ofChange fnEqualsSpec)

/-- ITS FALSE NEIGHBOUR: 'it returns false'. Refute it at one input. -/
def fnEqualsWrong : ChangeSpec := { name := "fnEquals", fn := fun _ => fun
  | [d1, d2] => { results := [.lit (.bool false)], args := [d1, d2] }
  | _ => none }
def FnEqualsWrongFalsely : Prop := fnEqualsRow.holds Try.pinned (OpenSpec.ofChange fnEqualsWrong)

/-- 'laws.FnDeleteMin': WHATEVER THE INPUT: true; the input reads as it did. -/
def fnDeleteMinSpec : ChangeSpec := { name := "fnDeleteMin", fn := fun _ => fun
  | [d] => { results := [.lit (.bool true)], args := [d] }
  | _ => none }
def fnDeleteMinRow : OpenClaim := { program := "ytkljkkejkflogaa", sum := "c4781cb39c148e0d1175448b3db87b63668e45e51a8c5375d61666c1070cffb6", func := "loop.example/pub-g01441/laws.FnDeleteMin", spec := "fnDeleteMin", unfollowed := true, recurses := true, apart := false }
def FnDeleteMinSaid : Prop := fnDeleteMinRow.holds Try.pinned (OpenSpec.ofChange fnDeleteMinSpec)

/-- ITS FALSE NEIGHBOUR: 'it returns false'. Refute it at one input. -/
def fnDeleteMinWrong : ChangeSpec := { name := "fnDeleteMin", fn := fun _ => fun
  | [d] => { results := [.lit (.bool false)], args := [d] }
  | _ => none }
def FnDeleteMinWrongFalsely : Prop := fnDeleteMinRow.holds Try.pinned (OpenSpec.ofChange fnDeleteMinWrong)

/-- 'laws.FnDeleteMax': WHATEVER THE INPUT: true; the input reads as it did. -/
def fnDeleteMaxSpec : ChangeSpec := { name := "fnDeleteMax", fn := fun _ => fun
  | [d] => { results := [.lit (.bool true)], args := [d] }
  | _ => none }
def fnDeleteMaxRow : OpenClaim := { program := "ytkljkkejkflogaa", sum := "c4781cb39c148e0d1175448b3db87b63668e45e51a8c5375d61666c1070cffb6", func := "loop.example/pub-g01441/laws.FnDeleteMax", spec := "fnDeleteMax", unfollowed := true, recurses := true, apart := false }
def FnDeleteMaxSaid : Prop := fnDeleteMaxRow.holds Try.pinned (OpenSpec.ofChange fnDeleteMaxSpec)

/-- ITS FALSE NEIGHBOUR: 'it returns false'. Refute it at one input. -/
def fnDeleteMaxWrong : ChangeSpec := { name := "fnDeleteMax", fn := fun _ => fun
  | [d] => { results := [.lit (.bool false)], args := [d] }
  | _ => none }
def FnDeleteMaxWrongFalsely : Prop := fnDeleteMaxRow.holds Try.pinned (OpenSpec.ofChange fnDeleteMaxWrong)

/-- 'laws.FnEquiv': WHATEVER THE INPUT: true; the input reads as it did. -/
def fnEquivSpec : ChangeSpec := { name := "fnEquiv", fn := fun _ => fun
  | [d1, d2, d3] => { results := [.lit (.bool true)], args := [d1, d2, d3] }
  | _ => none }
def fnEquivRow : OpenClaim := { program := "ytkljkkejkflogaa", sum := "c4781cb39c148e0d1175448b3db87b63668e45e51a8c5375d61666c1070cffb6", func := "loop.example/pub-g01441/laws.FnEquiv", spec := "fnEquiv", unfollowed := true, recurses := true, apart := false }
def FnEquivSaid : Prop := fnEquivRow.holds Try.pinned (OpenSpec.ofChange fnEquivSpec)

/-- ITS FALSE NEIGHBOUR: 'it returns false'. Refute it at one input. -/
def fnEquivWrong : ChangeSpec := { name := "fnEquiv", fn := fun _ => fun
  | [d1, d2, d3] => { results := [.lit (.bool false)], args := [d1, d2, d3] }
  | _ => none }
def FnEquivWrongFalsely : Prop := fnEquivRow.holds Try.pinned (OpenSpec.ofChange fnEquivWrong)

/-- 'laws.FnWalk': WHATEVER THE INPUT: true; the input reads as it did. -/
def fnWalkSpec : ChangeSpec := { name := "fnWalk", fn := fun _ => fun
  | [d] => { results := [.lit (.bool true)], args := [d] }
  | _ => none }
def fnWalkRow : OpenClaim := { program := "ytkljkkejkflogaa", sum := "c4781cb39c148e0d1175448b3db87b63668e45e51a8c5375d61666c1070cffb6", func := "loop.example/pub-g01441/laws.FnWalk", spec := "fnWalk", recurses := true, apart := false }
def FnWalkSaid : Prop := fnWalkRow.holds Try.pinned (OpenSpec.ofChange fnWalkSpec)

/-- ITS FALSE NEIGHBOUR: 'it returns false'. Refute it at one input. -/
def fnWalkWrong : ChangeSpec := { name := "fnWalk", fn := fun _ => fun
  | [d] => { results := [.lit (.bool false)], args := [d] }
  | _ => none }
def FnWalkWrongFalsely : Prop := fnWalkRow.holds Try.pinned (OpenSpec.ofChange fnWalkWrong)

/-- 'laws.FnOrderFree': WHATEVER THE INPUT: true; the input reads as it did. -/
def fnOrderFreeSpec : ChangeSpec := { name := "fnOrderFree", fn := fun _ => fun
  | [d1, d2] => { results := [.lit (.bool true)], args := [d1, d2] }
  | _ => none }
def fnOrderFreeRow : OpenClaim := { program := "ytkljkkejkflogaa", sum := "c4781cb39c148e0d1175448b3db87b63668e45e51a8c5375d61666c1070cffb6", func := "loop.example/pub-g01441/laws.FnOrderFree", spec := "fnOrderFree", unfollowed := true, recurses := true, apart := false }
def FnOrderFreeSaid : Prop := fnOrderFreeRow.holds Try.pinned (OpenSpec.ofChange fnOrderFreeSpec)

/-- ITS FALSE NEIGHBOUR: 'it returns false'. Refute it at one input. -/
def fnOrderFreeWrong : ChangeSpec := { name := "fnOrderFree", fn := fun _ => fun
  | [d1, d2] => { results := [.lit (.bool false)], args := [d1, d2] }
  | _ => none }
def FnOrderFreeWrongFalsely : Prop := fnOrderFreeRow.holds Try.pinned (OpenSpec.ofChange fnOrderFreeWrong)

/-- 'laws.FnDrain': WHATEVER THE INPUT: true; the input reads as it did. -/
def fnDrainSpec : ChangeSpec := { name := "fnDrain", fn := fun _ => fun
  | [d1, d2] => { results := [.lit (.bool true)], args := [d1, d2] }
  | _ => none }
def fnDrainRow : OpenClaim := { program := "ytkljkkejkflogaa", sum := "c4781cb39c148e0d1175448b3db87b63668e45e51a8c5375d61666c1070cffb6", func := "loop.example/pub-g01441/laws.FnDrain", spec := "fnDrain", recurses := true, apart := false }
def FnDrainSaid : Prop := fnDrainRow.holds Try.pinned (OpenSpec.ofChange fnDrainSpec)

/-- ITS FALSE NEIGHBOUR: 'it returns false'. Refute it at one input. -/
def fnDrainWrong : ChangeSpec := { name := "fnDrain", fn := fun _ => fun
  | [d1, d2] => { results := [.lit (.bool false)], args := [d1, d2] }
  | _ => none }
def FnDrainWrongFalsely : Prop := fnDrainRow.holds Try.pinned (OpenSpec.ofChange fnDrainWrong)

/- THE SECOND FORM. 'bulk': how many values and letters a reading holds, each counted each time it is reached (what is shared counts as often as it is met; a slice's spare places count too). A statement '..UptoSaid' is the law's where the arguments, and the package variables that the reading takes, are together of bulk at most 1048576: NARROWER than '..Said'. Prove '..Said' where nothing that the law and all that it calls make is longer than what came in: it says more and counts as full. Else prove '..UptoSaid'. A law counts once. -/
mutual
def uptoBulk {H : Type} : DataW H → Nat
  | .lit (.string bytes) => bytes.length + 1
  | .lit _ => 1
  | .nil => 1
  | .ptr d => uptoBulk d + 1
  | .slice elems spare => uptoBulkAll elems + uptoBulkAll spare + 1
  | .agg parts => uptoBulkAll parts + 1
  | .iface _ d => uptoBulk d + 1
  | .map entries => uptoBulkEntries entries + 1
  | .held _ => 1
def uptoBulkAll {H : Type} : List (DataW H) → Nat
  | [] => 0
  | d :: r => uptoBulk d + uptoBulkAll r
def uptoBulkEntries {H : Type} : List (Lit × DataW H) → Nat
  | [] => 0
  | x :: r => uptoBulkEntry x + uptoBulkEntries r
def uptoBulkEntry {H : Type} : Lit × DataW H → Nat
  | (.string bytes, d) => bytes.length + uptoBulk d + 1
  | (_, d) => uptoBulk d + 1
 end
def uptoSmall : (H : Type) → List (DataW H) → Bool := fun _ ds => decide (uptoBulkAll ds ≤ 1048576)
def OpenSpec.upto (s : _root_.Go.ChangeSpec) : _root_.Go.OpenSpec := { _root_.Go.OpenSpec.ofChange s with cond := some uptoSmall }

/-- 'laws.FnGlbEq', WHERE WHAT IT READS IS OF BULK AT MOST 1048576: true; the input reads as it did. -/
def fnGlbEqUptoRow : OpenClaim := { program := "ytkljkkejkflogaa", sum := "c4781cb39c148e0d1175448b3db87b63668e45e51a8c5375d61666c1070cffb6", func := "loop.example/pub-g01441/laws.FnGlbEq", spec := "fnGlbEq", recurses := true, apart := false, narrowed := true }
def FnGlbEqUptoSaid : Prop := fnGlbEqUptoRow.holds Try.pinned (OpenSpec.upto fnGlbEqSpec)

/-- 'laws.FnLub', WHERE WHAT IT READS IS OF BULK AT MOST 1048576: true; the input reads as it did. -/
def fnLubUptoRow : OpenClaim := { program := "ytkljkkejkflogaa", sum := "c4781cb39c148e0d1175448b3db87b63668e45e51a8c5375d61666c1070cffb6", func := "loop.example/pub-g01441/laws.FnLub", spec := "fnLub", recurses := true, apart := false, narrowed := true }
def FnLubUptoSaid : Prop := fnLubUptoRow.holds Try.pinned (OpenSpec.upto fnLubSpec)

/-- 'laws.FnLubEq', WHERE WHAT IT READS IS OF BULK AT MOST 1048576: true; the input reads as it did. -/
def fnLubEqUptoRow : OpenClaim := { program := "ytkljkkejkflogaa", sum := "c4781cb39c148e0d1175448b3db87b63668e45e51a8c5375d61666c1070cffb6", func := "loop.example/pub-g01441/laws.FnLubEq", spec := "fnLubEq", recurses := true, apart := false, narrowed := true }
def FnLubEqUptoSaid : Prop := fnLubEqUptoRow.holds Try.pinned (OpenSpec.upto fnLubEqSpec)

/-- 'laws.FnIterate', WHERE WHAT IT READS IS OF BULK AT MOST 1048576: true; the input reads as it did. -/
def fnIterateUptoRow : OpenClaim := { program := "ytkljkkejkflogaa", sum := "c4781cb39c148e0d1175448b3db87b63668e45e51a8c5375d61666c1070cffb6", func := "loop.example/pub-g01441/laws.FnIterate", spec := "fnIterate", recurses := true, apart := false, narrowed := true }
def FnIterateUptoSaid : Prop := fnIterateUptoRow.holds Try.pinned (OpenSpec.upto fnIterateSpec)

/-- 'laws.FnAskedVersions', WHERE WHAT IT READS IS OF BULK AT MOST 1048576: true; the input reads as it did. -/
def fnAskedVersionsUptoRow : OpenClaim := { program := "ytkljkkejkflogaa", sum := "c4781cb39c148e0d1175448b3db87b63668e45e51a8c5375d61666c1070cffb6", func := "loop.example/pub-g01441/laws.FnAskedVersions", spec := "fnAskedVersions", unfollowed := true, recurses := true, apart := false, narrowed := true }
def FnAskedVersionsUptoSaid : Prop := fnAskedVersionsUptoRow.holds Try.pinned (OpenSpec.upto fnAskedVersionsSpec)

/-- 'laws.FnEquals', WHERE WHAT IT READS IS OF BULK AT MOST 1048576: true; the input reads as it did. -/
def fnEqualsUptoRow : OpenClaim := { program := "ytkljkkejkflogaa", sum := "c4781cb39c148e0d1175448b3db87b63668e45e51a8c5375d61666c1070cffb6", func := "loop.example/pub-g01441/laws.FnEquals", spec := "fnEquals", recurses := true, apart := false, narrowed := true }
def FnEqualsUptoSaid : Prop := fnEqualsUptoRow.holds Try.pinned (OpenSpec.upto fnEqualsSpec)

/-- 'laws.FnDeleteMin', WHERE WHAT IT READS IS OF BULK AT MOST 1048576: true; the input reads as it did. -/
def fnDeleteMinUptoRow : OpenClaim := { program := "ytkljkkejkflogaa", sum := "c4781cb39c148e0d1175448b3db87b63668e45e51a8c5375d61666c1070cffb6", func := "loop.example/pub-g01441/laws.FnDeleteMin", spec := "fnDeleteMin", unfollowed := true, recurses := true, apart := false, narrowed := true }
def FnDeleteMinUptoSaid : Prop := fnDeleteMinUptoRow.holds Try.pinned (OpenSpec.upto fnDeleteMinSpec)

/-- 'laws.FnDeleteMax', WHERE WHAT IT READS IS OF BULK AT MOST 1048576: true; the input reads as it did. -/
def fnDeleteMaxUptoRow : OpenClaim := { program := "ytkljkkejkflogaa", sum := "c4781cb39c148e0d1175448b3db87b63668e45e51a8c5375d61666c1070cffb6", func := "loop.example/pub-g01441/laws.FnDeleteMax", spec := "fnDeleteMax", unfollowed := true, recurses := true, apart := false, narrowed := true }
def FnDeleteMaxUptoSaid : Prop := fnDeleteMaxUptoRow.holds Try.pinned (OpenSpec.upto fnDeleteMaxSpec)

/-- 'laws.FnEquiv', WHERE WHAT IT READS IS OF BULK AT MOST 1048576: true; the input reads as it did. -/
def fnEquivUptoRow : OpenClaim := { program := "ytkljkkejkflogaa", sum := "c4781cb39c148e0d1175448b3db87b63668e45e51a8c5375d61666c1070cffb6", func := "loop.example/pub-g01441/laws.FnEquiv", spec := "fnEquiv", unfollowed := true, recurses := true, apart := false, narrowed := true }
def FnEquivUptoSaid : Prop := fnEquivUptoRow.holds Try.pinned (OpenSpec.upto fnEquivSpec)

/-- 'laws.FnWalk', WHERE WHAT IT READS IS OF BULK AT MOST 1048576: true; the input reads as it did. -/
def fnWalkUptoRow : OpenClaim := { program := "ytkljkkejkflogaa", sum := "c4781cb39c148e0d1175448b3db87b63668e45e51a8c5375d61666c1070cffb6", func := "loop.example/pub-g01441/laws.FnWalk", spec := "fnWalk", recurses := true, apart := false, narrowed := true }
def FnWalkUptoSaid : Prop := fnWalkUptoRow.holds Try.pinned (OpenSpec.upto fnWalkSpec)

/-- 'laws.FnOrderFree', WHERE WHAT IT READS IS OF BULK AT MOST 1048576: true; the input reads as it did. -/
def fnOrderFreeUptoRow : OpenClaim := { program := "ytkljkkejkflogaa", sum := "c4781cb39c148e0d1175448b3db87b63668e45e51a8c5375d61666c1070cffb6", func := "loop.example/pub-g01441/laws.FnOrderFree", spec := "fnOrderFree", unfollowed := true, recurses := true, apart := false, narrowed := true }
def FnOrderFreeUptoSaid : Prop := fnOrderFreeUptoRow.holds Try.pinned (OpenSpec.upto fnOrderFreeSpec)

/-- 'laws.FnDrain', WHERE WHAT IT READS IS OF BULK AT MOST 1048576: true; the input reads as it did. -/
def fnDrainUptoRow : OpenClaim := { program := "ytkljkkejkflogaa", sum := "c4781cb39c148e0d1175448b3db87b63668e45e51a8c5375d61666c1070cffb6", func := "loop.example/pub-g01441/laws.FnDrain", spec := "fnDrain", recurses := true, apart := false, narrowed := true }
def FnDrainUptoSaid : Prop := fnDrainUptoRow.holds Try.pinned (OpenSpec.upto fnDrainSpec)

end Rows
end Go.Proofs.Ytkljkkejkflogaa
