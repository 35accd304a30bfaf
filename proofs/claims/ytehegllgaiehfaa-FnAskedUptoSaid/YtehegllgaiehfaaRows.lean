/-
  No cell of these rows narrows 'for every input' (looked for: loops, veiled, ifaces, maps, wideKeys, modest, calm, conditions, laid).
  DERIVED. THE GIVEN ROWS OF THIS SEAT. 6 by the template 'for every input the law returns true; each argument reads behind the call as it read before'; 0 by the template 'total and deterministic' (their statements: YtehegllgaiehfaaTotals.lean).
  GIVEN WITH THE SEED: the statements are not yours to turn. If you find one false, say at which input.
  Laid BY PROGRAM, IN A SANDBOX (cutbox-rows.mjs): the forced cells as the released guide's own fill.sh prints them over the translation 4dc43465a7b114bf… (all of the seat's roots in one cut). By AI agents, Wed Nov 11 2026. No macro, syntax, notation, axiom, sorry.
-/
import Derived.Test.YtehegllgaiehfaaChecked
import GoSem.Claim
import GoSem.ClaimJoined
import GoSem.ClaimMapViews
import Derived.JoinedTies
import Derived.KernelRfl
namespace Go.Proofs.Ytehegllgaiehfaa
/- THE CELL 'sum', in the pinned program and in every row, IS THE sha256 OF THE DUMP (.gsa) THAT YtehegllgaiehfaaProg.lean LOADS. Nothing in Lean hashes anything: it is a label: what it is worth is what the hold of that sum in a sandbox is worth. -/
noncomputable def Try.pinned : Pinned := { name := "ytehegllgaiehfaa", sum := "4dc43465a7b114bf4e0548d7b0da68ac97b4664da9addbca7b727582a6f4dc50", checked := Try.checked }
namespace Rows
def none {H : Type} : Left H := { results := [], args := [] }

/-- 'laws.FnSplitAt': WHATEVER THE INPUT: true; the input reads as it did. -/
def fnSplitAtSpec : ChangeSpec := { name := "fnSplitAt", fn := fun _ => fun
  | [d1, d2, d3] => { results := [.lit (.bool true)], args := [d1, d2, d3] }
  | _ => none }
def fnSplitAtRow : OpenClaim := { program := "ytehegllgaiehfaa", sum := "4dc43465a7b114bf4e0548d7b0da68ac97b4664da9addbca7b727582a6f4dc50", func := "loop.example/pub-g01441/laws.FnSplitAt", spec := "fnSplitAt", unfollowed := true, recurses := true, apart := false }
def FnSplitAtSaid : Prop := fnSplitAtRow.holds Try.pinned (OpenSpec.ofChange fnSplitAtSpec)

/-- ITS FALSE NEIGHBOUR: 'it returns false'. Refute it at one input. -/
def fnSplitAtWrong : ChangeSpec := { name := "fnSplitAt", fn := fun _ => fun
  | [d1, d2, d3] => { results := [.lit (.bool false)], args := [d1, d2, d3] }
  | _ => none }
def FnSplitAtWrongFalsely : Prop := fnSplitAtRow.holds Try.pinned (OpenSpec.ofChange fnSplitAtWrong)

/-- 'laws.FnHistory': WHATEVER THE INPUT: true; the input reads as it did. -/
def fnHistorySpec : ChangeSpec := { name := "fnHistory", fn := fun _ => fun
  | [d] => { results := [.lit (.bool true)], args := [d] }
  | _ => none }
def fnHistoryRow : OpenClaim := { program := "ytehegllgaiehfaa", sum := "4dc43465a7b114bf4e0548d7b0da68ac97b4664da9addbca7b727582a6f4dc50", func := "loop.example/pub-g01441/laws.FnHistory", spec := "fnHistory", unfollowed := true, recurses := true, apart := false }
def FnHistorySaid : Prop := fnHistoryRow.holds Try.pinned (OpenSpec.ofChange fnHistorySpec)

/-- ITS FALSE NEIGHBOUR: 'it returns false'. Refute it at one input. -/
def fnHistoryWrong : ChangeSpec := { name := "fnHistory", fn := fun _ => fun
  | [d] => { results := [.lit (.bool false)], args := [d] }
  | _ => none }
def FnHistoryWrongFalsely : Prop := fnHistoryRow.holds Try.pinned (OpenSpec.ofChange fnHistoryWrong)

/-- 'laws.FnVersions': WHATEVER THE INPUT: true; the input reads as it did. -/
def fnVersionsSpec : ChangeSpec := { name := "fnVersions", fn := fun _ => fun
  | [d] => { results := [.lit (.bool true)], args := [d] }
  | _ => none }
def fnVersionsRow : OpenClaim := { program := "ytehegllgaiehfaa", sum := "4dc43465a7b114bf4e0548d7b0da68ac97b4664da9addbca7b727582a6f4dc50", func := "loop.example/pub-g01441/laws.FnVersions", spec := "fnVersions", unfollowed := true, recurses := true, apart := false }
def FnVersionsSaid : Prop := fnVersionsRow.holds Try.pinned (OpenSpec.ofChange fnVersionsSpec)

/-- ITS FALSE NEIGHBOUR: 'it returns false'. Refute it at one input. -/
def fnVersionsWrong : ChangeSpec := { name := "fnVersions", fn := fun _ => fun
  | [d] => { results := [.lit (.bool false)], args := [d] }
  | _ => none }
def FnVersionsWrongFalsely : Prop := fnVersionsRow.holds Try.pinned (OpenSpec.ofChange fnVersionsWrong)

/-- 'laws.FnDeletes': WHATEVER THE INPUT: true; the input reads as it did. -/
def fnDeletesSpec : ChangeSpec := { name := "fnDeletes", fn := fun _ => fun
  | [d1, d2] => { results := [.lit (.bool true)], args := [d1, d2] }
  | _ => none }
def fnDeletesRow : OpenClaim := { program := "ytehegllgaiehfaa", sum := "4dc43465a7b114bf4e0548d7b0da68ac97b4664da9addbca7b727582a6f4dc50", func := "loop.example/pub-g01441/laws.FnDeletes", spec := "fnDeletes", unfollowed := true, recurses := true, apart := false }
def FnDeletesSaid : Prop := fnDeletesRow.holds Try.pinned (OpenSpec.ofChange fnDeletesSpec)

/-- ITS FALSE NEIGHBOUR: 'it returns false'. Refute it at one input. -/
def fnDeletesWrong : ChangeSpec := { name := "fnDeletes", fn := fun _ => fun
  | [d1, d2] => { results := [.lit (.bool false)], args := [d1, d2] }
  | _ => none }
def FnDeletesWrongFalsely : Prop := fnDeletesRow.holds Try.pinned (OpenSpec.ofChange fnDeletesWrong)

/-- 'laws.FnAsked': WHATEVER THE INPUT: true; the input reads as it did. -/
def fnAskedSpec : ChangeSpec := { name := "fnAsked", fn := fun _ => fun
  | [d1, d2] => { results := [.lit (.bool true)], args := [d1, d2] }
  | _ => none }
def fnAskedRow : OpenClaim := { program := "ytehegllgaiehfaa", sum := "4dc43465a7b114bf4e0548d7b0da68ac97b4664da9addbca7b727582a6f4dc50", func := "loop.example/pub-g01441/laws.FnAsked", spec := "fnAsked", unfollowed := true, recurses := true, apart := false }
def FnAskedSaid : Prop := fnAskedRow.holds Try.pinned (OpenSpec.ofChange fnAskedSpec)

/-- ITS FALSE NEIGHBOUR: 'it returns false'. Refute it at one input. -/
def fnAskedWrong : ChangeSpec := { name := "fnAsked", fn := fun _ => fun
  | [d1, d2] => { results := [.lit (.bool false)], args := [d1, d2] }
  | _ => none }
def FnAskedWrongFalsely : Prop := fnAskedRow.holds Try.pinned (OpenSpec.ofChange fnAskedWrong)

/-- 'laws.FnAskedVersions': WHATEVER THE INPUT: true; the input reads as it did. -/
def fnAskedVersionsSpec : ChangeSpec := { name := "fnAskedVersions", fn := fun _ => fun
  | [d1, d2] => { results := [.lit (.bool true)], args := [d1, d2] }
  | _ => none }
def fnAskedVersionsRow : OpenClaim := { program := "ytehegllgaiehfaa", sum := "4dc43465a7b114bf4e0548d7b0da68ac97b4664da9addbca7b727582a6f4dc50", func := "loop.example/pub-g01441/laws.FnAskedVersions", spec := "fnAskedVersions", unfollowed := true, recurses := true, apart := false }
def FnAskedVersionsSaid : Prop := fnAskedVersionsRow.holds Try.pinned (OpenSpec.ofChange fnAskedVersionsSpec)

/-- ITS FALSE NEIGHBOUR: 'it returns false'. Refute it at one input. -/
def fnAskedVersionsWrong : ChangeSpec := { name := "fnAskedVersions", fn := fun _ => fun
  | [d1, d2] => { results := [.lit (.bool false)], args := [d1, d2] }
  | _ => none }
def FnAskedVersionsWrongFalsely : Prop := fnAskedVersionsRow.holds Try.pinned (OpenSpec.ofChange fnAskedVersionsWrong)

/- THE SECOND FORM. 'bulk': how many values and letters a reading holds, each counted each time it is reached (what is shared counts as often as it is met; a slice's spare places count too). A statement '..UptoSaid' is the law's where the arguments, and the package variables that the reading takes, are together of bulk at most 1048576: NARROWER than '..Said'. Prove '..Said' where nothing that the law and all that it calls make is longer than what came in: it says more and counts as full. Else prove '..UptoSaid'. A law counts once. -/
mutual
def uptoBulk {H : Type} : DataW H → Nat
  | .lit (.string bytes) => bytes.length + 1
  | .lit _ => 1
  | .nil => 1
  | .ptr d => uptoBulk d + 1
  | .slice elems spare => uptoBulkAll elems + uptoBulkAll spare + 1
  | .agg parts => uptoBulkAll parts + 1
  | .iface _ d => uptoBulk d + 1
  | .map entries => uptoBulkEntries entries + 1
  | .held _ => 1
def uptoBulkAll {H : Type} : List (DataW H) → Nat
  | [] => 0
  | d :: r => uptoBulk d + uptoBulkAll r
def uptoBulkEntries {H : Type} : List (Lit × DataW H) → Nat
  | [] => 0
  | x :: r => uptoBulkEntry x + uptoBulkEntries r
def uptoBulkEntry {H : Type} : Lit × DataW H → Nat
  | (.string bytes, d) => bytes.length + uptoBulk d + 1
  | (_, d) => uptoBulk d + 1
 end
def uptoSmall : (H : Type) → List (DataW H) → Bool := fun _ ds => decide (uptoBulkAll ds ≤ 1048576)
def OpenSpec.upto (s : _root_.Go.ChangeSpec) : _root_.Go.OpenSpec := { _root_.Go.OpenSpec.ofChange s with cond := some uptoSmall }

/-- 'laws.FnSplitAt', WHERE WHAT IT READS IS OF BULK AT MOST 1048576: true; the input reads as it did. -/
def fnSplitAtUptoRow : OpenClaim := { program := "ytehegllgaiehfaa", sum := "4dc43465a7b114bf4e0548d7b0da68ac97b4664da9addbca7b727582a6f4dc50", func := "loop.example/pub-g01441/laws.FnSplitAt", spec := "fnSplitAt", unfollowed := true, recurses := true, apart := false, narrowed := true }
def FnSplitAtUptoSaid : Prop := fnSplitAtUptoRow.holds Try.pinned (OpenSpec.upto fnSplitAtSpec)

/-- 'laws.FnHistory', WHERE WHAT IT READS IS OF BULK AT MOST 1048576: true; the input reads as it did. -/
def fnHistoryUptoRow : OpenClaim := { program := "ytehegllgaiehfaa", sum := "4dc43465a7b114bf4e0548d7b0da68ac97b4664da9addbca7b727582a6f4dc50", func := "loop.example/pub-g01441/laws.FnHistory", spec := "fnHistory", unfollowed := true, recurses := true, apart := false, narrowed := true }
def FnHistoryUptoSaid : Prop := fnHistoryUptoRow.holds Try.pinned (OpenSpec.upto fnHistorySpec)

/-- 'laws.FnVersions', WHERE WHAT IT READS IS OF BULK AT MOST 1048576: true; the input reads as it did. -/
def fnVersionsUptoRow : OpenClaim := { program := "ytehegllgaiehfaa", sum := "4dc43465a7b114bf4e0548d7b0da68ac97b4664da9addbca7b727582a6f4dc50", func := "loop.example/pub-g01441/laws.FnVersions", spec := "fnVersions", unfollowed := true, recurses := true, apart := false, narrowed := true }
def FnVersionsUptoSaid : Prop := fnVersionsUptoRow.holds Try.pinned (OpenSpec.upto fnVersionsSpec)

/-- 'laws.FnDeletes', WHERE WHAT IT READS IS OF BULK AT MOST 1048576: true; the input reads as it did. -/
def fnDeletesUptoRow : OpenClaim := { program := "ytehegllgaiehfaa", sum := "4dc43465a7b114bf4e0548d7b0da68ac97b4664da9addbca7b727582a6f4dc50", func := "loop.example/pub-g01441/laws.FnDeletes", spec := "fnDeletes", unfollowed := true, recurses := true, apart := false, narrowed := true }
def FnDeletesUptoSaid : Prop := fnDeletesUptoRow.holds Try.pinned (OpenSpec.upto fnDeletesSpec)

/-- 'laws.FnAsked', WHERE WHAT IT READS IS OF BULK AT MOST 1048576: true; the input reads as it did. -/
def fnAskedUptoRow : OpenClaim := { program := "ytehegllgaiehfaa", sum := "4dc43465a7b114bf4e0548d7b0da68ac97b4664da9addbca7b727582a6f4dc50", func := "loop.example/pub-g01441/laws.FnAsked", spec := "fnAsked", unfollowed := true, recurses := true, apart := false, narrowed := true }
def FnAskedUptoSaid : Prop := fnAskedUptoRow.holds Try.pinned (OpenSpec.upto fnAskedSpec)

/-- 'laws.FnAskedVersions', WHERE WHAT IT READS IS OF BULK AT MOST 1048576: true; the input reads as it did. -/
def fnAskedVersionsUptoRow : OpenClaim := { program := "ytehegllgaiehfaa", sum := "4dc43465a7b114bf4e0548d7b0da68ac97b4664da9addbca7b727582a6f4dc50", func := "loop.example/pub-g01441/laws.FnAskedVersions", spec := "fnAskedVersions", unfollowed := true, recurses := true, apart := false, narrowed := true }
def FnAskedVersionsUptoSaid : Prop := fnAskedVersionsUptoRow.holds Try.pinned (OpenSpec.upto fnAskedVersionsSpec)

end Rows
end Go.Proofs.Ytehegllgaiehfaa
