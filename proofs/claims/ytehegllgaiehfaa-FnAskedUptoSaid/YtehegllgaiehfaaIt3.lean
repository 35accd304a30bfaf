/- node.iterator, iterator.done, T.Iterator, Iterator.Done, Iterator.Next. -/
import Derived.Test.YtehegllgaiehfaaIt2
import Derived.Test.YtehegllgaiehfaaTree2
namespace Go.Proofs.Ytehegllgaiehfaa
open Go.RowKit

/-- an iterator's value -/
def RowV (w : World) (v : Value) (g : Nat) (st : List Fr) : Prop :=
  (v = .slice none 0 0 ∧ st = []) ∨ ∃ cap, v = .slice (some ⟨g, 0, none⟩) st.length cap ∧ w.ownsRow 0 76 1 v st.length (ptrs st) ∧ Chain w cap st
/-- an iterator in its variable -/
def ItX (w : World) (ib g : Nat) (st : List Fr) : Prop := ((∃ ty, w.heap[ib]? = some (.cells #[.slice none 0 0] ty (0, 0))) ∧ st = []) ∨ ∃ cap, ItAt w ib g cap st
theorem RowV.it {w : World} {v : Value} {g ib : Nat} {ty : TypeId} {st : List Fr} (h : RowV w v g st) (hb : w.heap[ib]? = some (.cells #[v] ty (0, 0))) (hne : ib ≠ g) : ItX w ib g st := by
  rcases h with ⟨rfl, rfl⟩ | ⟨cap, rfl, h2, h3⟩
  · exact .inl ⟨⟨ty, hb⟩, rfl⟩
  · exact .inr ⟨cap, ⟨ty, hb⟩, h2, hne, h3⟩
def NewIt (w : World) (T : Tr) (e : Ending) (w' : World) : Prop := ∃ v g st, e = .returned (.agg #[v]) ∧ w.heap.size ≤ g ∧ g < w'.heap.size ∧ RowV w' v g st ∧ Good st ∧ rest st = toL T ∧ Kept Non w w'

set_option maxRecDepth 100000 in
theorem iterator_nil (w : World) : Calls Try.prog 81 #[.pointer none] w (NewIt w .nil) := by
  go_enter Try.func81, Try.ntmps81
  go_wp2
  refine bodyPost_ret (v := .agg #[.slice none 0 0]) (by simp [results, Try.results81, go_sem]) rfl ⟨_, w.heap.size, [], rfl, Nat.le_refl _, by simp, .inl ⟨rfl, rfl⟩, (fun f fs e => by cases e), rfl, ?_⟩
  repeat (first | exact Kept.refl _ _ | refine Kept.alloc ?_ _ | refine Kept.setNew ?_ _ _ (Nat.le_refl _) _)

set_option maxRecDepth 100000 in
theorem iterator_node (w : World) (T : Tr) (hT : T ≠ .nil) (h : Tree1 w T) (hb : ht T ≤ 80) : Calls Try.prog 81 #[T.ptr] w (NewIt w T) := by
  obtain ⟨ti, hti, hts, htz, htb⟩ := tyN
  obtain ⟨bt, ft⟩ := node_ptr h.inn hT
  have hpos := Avl.ht_nonneg h.avl
  obtain ⟨n, hn⟩ : ∃ n : Nat, ht T = n := ⟨(ht T).toNat, by omega⟩
  have HL := hid0 (fun W (hK : Kept Non w W) => height_at W T _ ft (h.inn.ext hK))
  have HH := hid0 (And.intro h (And.intro hn (And.intro hb hT)))
  have HTI := hid0 (And.intro hti (And.intro hts (And.intro htz htb)))
  have hn80 : n ≤ 80 := by omega
  rw [ft]
  clear h hT hti hts htz htb hpos hb
  go_enter Try.func81, Try.ntmps81
  go_wp2_with fail
  refine (HL.out _ ((Kept.refl _ _).alloc _)).mono ?_
  rintro e w0 ⟨rfl, hw⟩
  rw [HH.out.2.1, hw]
  clear hw hn
  go_wp2_with (at_make; refine wpList_make_own _ rfl _ (.tmp 9) 81 rfl 0 76 ti (.pointer none) 1 undN HTI.out.1 HTI.out.2.2.1 HTI.out.2.1 .i64 .i64 _ n rfl rfl (by go_num) (by rw [HTI.out.2.2.2]; omega) (by unfold maxLen; omega) (by simp) ?_)
  intro w1 g1 g2
  have hk0 : Kept Non (w.alloc (.cells #[.slice none 0 0] 83)) w1 := ⟨g2.os, g2.tape, g2.output, g2.size, fun k hk _ => g2.block k hk (by simp)⟩
  have hk1 : Kept Non w w1 := ((Kept.refl _ w).alloc _).trans hk0
  have hr0 : w1.heap[w.heap.size]? = some (.cells #[.slice none 0 0] 83 (0, 0)) := (hk0.block _ (by simp) (fun h => h)).trans (alloc_new _ _)
  have hgl : w.heap.size + 1 < w1.heap.size := by
    rcases g1.2 with ⟨h1, _⟩ | ⟨g', cap', cur, h1, _, h2, _⟩
    · cases h1
    · cases h1; exact block_lt h2
  have HG := hid0 (And.intro g1 (And.intro hk1 (And.intro hr0 hgl)))
  clear g1 g2 hk0 hk1 hr0 hgl
  go_wp2_with fail
  rw [← ft]
  obtain ⟨h, hn, hb, hT⟩ := HH.out
  obtain ⟨g1, hk1, hr0, hgl⟩ := HG.out
  refine (leftmost_any _ w1.heap.size (w.heap.size + 1) n [] T ⟨⟨83, ?_⟩, ?_, ?_, trivial⟩ ?_ ?_ ?_).mono ?_
  · first | exact alloc_new _ _ | exact set_block (alloc_new _ _) 0 _
  · first | exact row_same g1 (alloc_old _ hgl) | exact row_same g1 ((set_other (by simp; omega)).trans (alloc_old _ hgl))
  · omega
  · refine h.kept (S := Non) ?_ (fun _ _ h => h)
    repeat (first | exact hk1 | refine Kept.alloc ?_ _ | refine Kept.setNew ?_ _ _ hk1.size _)
  · simp only [List.length_nil]; omega
  · intro f P fs e; cases e
  rintro e w2 ⟨rfl, i1, i2⟩
  have hK2 : Kept (Two w1.heap.size (w.heap.size + 1)) w1 w2 := by
    refine Kept.trans ?_ i2
    repeat (first | exact Kept.refl _ _ | refine Kept.alloc ?_ _ | refine Kept.setNew ?_ _ _ (Nat.le_refl _) _)
  have hr2 : w2.heap[w.heap.size]? = some (.cells #[.slice none 0 0] 83 (0, 0)) := (hK2.block _ (block_lt hr0) (fun e => by rcases e with e | e <;> omega)).trans hr0
  have c0 := i1.hcell
  have d0 : w2.cell? ⟨w.heap.size, 0, none⟩ = some (.slice none 0 0) := by rw [cell_of hr2]; rfl
  have df := frozen_of hr2
  have hKw : Kept Non w w2 := hk1.trans' hK2 (fun i hi e => by rcases e with e | e <;> omega)
  have hgl2 : w.heap.size + 1 < w2.heap.size := Nat.lt_of_lt_of_le hgl hK2.size
  have HF := hid0 (And.intro i1 (And.intro hKw (And.intro hgl2 (And.intro hT hr2))))
  clear i1 i2 hK2 hr2 hKw hgl2 g1 hk1 hr0 hgl h hb hn hT HG HL
  go_wp2
  refine bodyPost_ret (v := .agg #[.slice (some ⟨w.heap.size + 1, 0, none⟩) (spine T []).length n]) (by simp [results, Try.results81, go_sem, *]) rfl ?_
  obtain ⟨i1, hKw, hgl2, hT, hr2⟩ := HF.out
  have hk3 : Kept (One w.heap.size) w2 (w2.setCell ⟨w.heap.size, 0, none⟩ (.slice (some ⟨w.heap.size + 1, 0, none⟩) (spine T []).length n)) := (Kept.refl _ _).setOne _ _
  refine ⟨_, w.heap.size + 1, spine T [], rfl, by omega, by simpa using hgl2, .inr ⟨n, rfl, row_same i1.row (set_other (by simp)), i1.chain.kept hk3 (fun T' hT' b hB e => ?_)⟩, spine_good _ _ (fun e => absurd e hT), ?_, hKw.setNew _ _ (Nat.le_refl _) _⟩
  · have e' : b = w.heap.size := e
    subst e'
    exact not_blk_hdr hr2 hT' hB
  · rw [rest_spine]; simp [rest]

end Go.Proofs.Ytehegllgaiehfaa
