/- Iterators in worlds that have gone on. -/
import Derived.Test.YtehegllgaiehfaaIt4
namespace Go.Proofs.Ytehegllgaiehfaa
open Go.RowKit

theorem RowV.ext {S : Nat → Prop} {w w' : World} {v : Value} {g : Nat} {st : List Fr} (h : RowV w v g st) (hk : Kept S w w') (hg : ¬ S g) (hs : ∀ T, In w T → ∀ b, Blk b T → ¬ S b) : RowV w' v g st := by
  rcases h with h | ⟨cap, rfl, h2, h3⟩
  · exact .inl h
  · refine .inr ⟨cap, rfl, row_same h2 (hk.block g ?_ hg), h3.kept hk hs⟩
    rcases h2.2 with ⟨h1, _⟩ | ⟨g', cap', cur, h1, _, h4, _⟩
    · cases h1
    · cases h1; exact block_lt h4
theorem ItX.ext {S : Nat → Prop} {w w' : World} {ib g : Nat} {st : List Fr} (h : ItX w ib g st) (hk : Kept S w w') (h1 : ¬ S ib) (h2 : ¬ S g) (hs : ∀ T, In w T → ∀ b, Blk b T → ¬ S b) : ItX w' ib g st := by
  rcases h with ⟨⟨ty, hb⟩, rfl⟩ | ⟨cap, h⟩
  · exact .inl ⟨⟨ty, (hk.block _ (block_lt hb) h1).trans hb⟩, rfl⟩
  · exact .inr ⟨cap, h.ext hk h1 h2 hs⟩
theorem ItX.lt {w : World} {ib g : Nat} {st : List Fr} (h : ItX w ib g st) : ib < w.heap.size := by
  rcases h with ⟨⟨ty, hb⟩, rfl⟩ | ⟨cap, h⟩
  · exact block_lt hb
  · obtain ⟨ty, hb⟩ := h.hdr
    exact block_lt hb

end Go.Proofs.Ytehegllgaiehfaa
