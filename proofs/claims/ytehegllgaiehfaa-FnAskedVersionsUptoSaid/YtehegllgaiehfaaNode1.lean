/- What the small reading functions of a node do: height, copy, makeNode, nilOrData, nilOrKeyAndData, isLeaf, find, min, max, glb, lub, on every tree that lies in memory. -/
import Derived.Test.YtehegllgaiehfaaBase
import Derived.Deep.LoopGhost
namespace Go.Proofs.Ytehegllgaiehfaa
open Go.RowKit

theorem height_nil (w : World) :
    Calls Try.prog 91 #[.pointer none] w fun e w' => e = .returned (.int .i8 0) ∧ w' = w := by
  go_enter Try.func91, Try.ntmps91
  go_wp2
  go_ret
  exact ⟨rfl, rfl⟩

theorem height_some (w : World) (b : Nat) (h : Int) (hc : w.cell? ⟨b, 4, none⟩ = some (.int .i8 h)) :
    Calls Try.prog 91 #[.pointer (some ⟨b, 0, none⟩)] w fun e w' => e = .returned (.int .i8 h) ∧ w' = w := by
  go_enter Try.func91, Try.ntmps91
  go_wp2
  go_ret
  exact ⟨rfl, rfl⟩

theorem height_any (w : World) (T : Tr) (hi : In w T) :
    Calls Try.prog 91 #[T.ptr] w fun e w' => e = .returned (.int .i8 (ht T)) ∧ w' = w := by
  cases T with
  | nil => exact height_nil w
  | node b o a l r =>
    obtain ⟨rfl, hb, _⟩ := hi
    exact height_some w b _ (nodeAt hb).c4

theorem copy_some (w : World) (b : Nat) (l r d : Value) (k h : Int) (hl : ∃ u, l = .pointer u) (hr : ∃ u, r = .pointer u) (hd : (∃ t v, d = .iface t v) ∨ d = .nilIface) (hn : NodeAt w b l r d k h) :
    Calls Try.prog 90 #[.pointer (some ⟨b, 0, none⟩)] w fun e w' => e = .returned (.pointer (some ⟨w.heap.size, 0, none⟩)) ∧ w' = w.alloc (nodeObj l r d k h) := by
  obtain ⟨u, rfl⟩ := hl
  obtain ⟨u', rfl⟩ := hr
  obtain ⟨c0, c1, c2, c3, c4, _⟩ := hn
  rcases hd with ⟨t, v, rfl⟩ | rfl
  all_goals
    go_enter Try.func90, Try.ntmps90
    go_wp2
    go_ret
    exact ⟨rfl, rfl⟩

theorem makeNode_any (w : World) (k : Int) :
    Calls Try.prog 79 #[.int .i32 k] w fun e w' => e = .returned (.pointer (some ⟨w.heap.size, 0, none⟩)) ∧ w' = w.alloc (nodeObj (.pointer none) (.pointer none) .nilIface k 1) := by
  go_enter Try.func79, Try.ntmps79
  go_wp2
  go_ret
  exact ⟨rfl, rfl⟩

end Go.Proofs.Ytehegllgaiehfaa
