/- spec.Below, spec.Least, spec.Greatest. -/
import Derived.Test.YtdmfnlhbddejiaaFnd
namespace Go.Proofs.Ytdmfnlhbddejiaa
open Go.RowKit

theorem glbP_take {ps : List (Int × Int)} {k : Nat} (x : Int) (q : Bool) (hlt : k < ps.length) : glbP x q (ps.take (k + 1)) = if (decide (ps[k].1 < x) || (q && ps[k].1 == x)) then some ps[k] else glbP x q (ps.take k) := by
  unfold glbP
  rw [filter_take hlt]
  split
  · simp
  · simp

theorem FdAt.set {w : World} {b : Nat} {f g : Fd} (h : FdAt w b f) : FdAt (((w.setCell ⟨b, 0, none⟩ (.int .i32 g.1)).setCell ⟨b, 1, none⟩ (.int .i64 g.2.1)).setCell ⟨b, 2, none⟩ (.bool g.2.2)) b g := ⟨set_block (set_block (set_block h.blk 0 _) 1 _) 2 _⟩
theorem FdAt.other {w : World} {b c i : Nat} {v : Value} {f : Fd} (h : FdAt w b f) (hne : b ≠ c) : FdAt (w.setCell ⟨c, i, none⟩ v) b f := ⟨(set_other hne).trans h.blk⟩
theorem FdAt.alloc {w : World} {b : Nat} {f : Fd} (h : FdAt w b f) (o : Obj) : FdAt (w.alloc o) b f := h.ext ((Kept.refl _ _).alloc _)

end Go.Proofs.Ytdmfnlhbddejiaa
