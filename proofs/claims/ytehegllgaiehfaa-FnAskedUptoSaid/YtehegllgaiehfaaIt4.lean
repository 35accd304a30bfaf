/- T.Iterator, iterator.done, Iterator.Done, Iterator.Next. -/
import Derived.Test.YtehegllgaiehfaaIt3
namespace Go.Proofs.Ytehegllgaiehfaa
open Go.RowKit

theorem iterator_any (w : World) (T : Tr) (h : Tree1 w T) (hb : ht T ≤ 80) : Calls Try.prog 81 #[T.ptr] w (NewIt w T) := by
  by_cases e : T = .nil
  · subst e; exact iterator_nil w
  · exact iterator_node w T e h hb
theorem GoodT.tree1 {w : World} {T : Tr} {xs : List (Int × Int)} (h : GoodT w T xs) : Tree1 w T := ⟨h.inn, h.avl, h.srt, h.dat⟩
def NewItr (w : World) (xs : List (Int × Value)) (e : Ending) (w' : World) : Prop := ∃ v g st, e = .returned (.agg #[v]) ∧ w.heap.size ≤ g ∧ g < w'.heap.size ∧ RowV w' v g st ∧ Good st ∧ rest st = xs ∧ Kept Non w w'
theorem RowV.form {w : World} {v : Value} {g : Nat} {st : List Fr} (h : RowV w v g st) : ∃ a n c, v = .slice a n c := by
  rcases h with ⟨rfl, _⟩ | ⟨cap, rfl, _⟩
  · exact ⟨_, _, _, rfl⟩
  · exact ⟨_, _, _, rfl⟩
theorem RowV.set {w w' : World} {v : Value} {g c : Nat} {st : List Fr} (h : RowV w v g st) (hk : Kept (One c) w w') (hg : g ≠ c) (hs : ∀ T, In w T → ¬ Blk c T) : RowV w' v g st := by
  rcases h with h | ⟨cap, rfl, h2, h3⟩
  · exact .inl h
  · refine .inr ⟨cap, rfl, row_same h2 (hk.block g ?_ hg), h3.kept hk (fun T hT b hB e => by have e' : b = c := e; subst e'; exact hs T hT hB)⟩
    rcases h2.2 with ⟨h1, _⟩ | ⟨g', cap', cur, h1, _, h4, _⟩
    · cases h1
    · cases h1; exact block_lt h4

set_option maxRecDepth 100000 in
theorem TIterator_any (w : World) (b o : Nat) (xs : List (Int × Int)) (h : TreeAt w b o xs) : Calls Try.prog 55 #[.pointer (some ⟨b, o, none⟩)] w (NewItr w (xs.map en)) := by
  obtain ⟨T, h0, h1, hg⟩ := h.ex
  have HL := hid0 hg.lst
  have HI := hid0 (fun W (hK : Kept Non w W) => iterator_any W T (hg.ext hK).tree1 (hg.ext hK).bnd)
  have hbl : b < w.heap.size := World.block_lt_of_cell? _ _ h0
  have hne : b ≠ w.heap.size := Nat.ne_of_lt hbl
  obtain ⟨u, fu⟩ := ptr_form T
  rw [fu] at h0 HI
  clear h h1 hg
  go_enter Try.func55, Try.ntmps55
  go_wp2_with fail
  refine (HI.out _ ((Kept.refl _ _).alloc _)).mono ?_
  rintro e w1 ⟨v, g, st, rfl, j1, j2, j3, j4, j5, j6⟩
  obtain ⟨va, vn, vc, rfl⟩ := j3.form
  have hr : w1.heap[w.heap.size]? = some (.cells #[.slice none 0 0] 85 (0, 0)) := (j6.block _ (by simp) (fun h => h)).trans (alloc_new _ _)
  have d0 : w1.cell? ⟨w.heap.size, 0, none⟩ = some (.slice none 0 0) := by rw [cell_of hr]; rfl
  have df := frozen_of hr
  have HJ := hid0 (And.intro j1 (And.intro j2 (And.intro j3 (And.intro j4 (And.intro j5 (And.intro (((Kept.refl _ w).alloc _).trans j6) hr))))))
  clear j1 j2 j3 j4 j5 j6 hr
  go_wp2
  refine bodyPost_ret (v := .agg #[.slice va vn vc]) (by simp [results, Try.results55, go_sem, *]) rfl ?_
  obtain ⟨j1, j2, j3, j4, j5, j6, hr⟩ := HJ.out
  simp at j1
  refine ⟨_, g, st, rfl, by omega, by simpa using j2, j3.set ((Kept.refl _ _).setOne _ _) (by omega) (fun T hT => not_blk_hdr hr hT), j4, by rw [j5, HL.out], ?_⟩
  exact j6.setNew _ _ (Nat.le_refl _) _

theorem itx_len {w : World} {ib g : Nat} {st : List Fr} (h : ItX w ib g st) (hg : Good st) : ∃ a c, w.cell? ⟨ib, 0, none⟩ = some (.slice a st.length c) ∧ ((st.length : Int) == 0) = (rest st).isEmpty := by
  rcases h with ⟨⟨ty, hb⟩, rfl⟩ | ⟨cap, h⟩
  · exact ⟨none, 0, by rw [cell_of hb]; rfl, rfl⟩
  · refine ⟨_, cap, h.hcell, ?_⟩
    have e := rest_nil h hg
    cases st with
    | nil => rfl
    | cons f fs =>
      have h1 : (rest (f :: fs)).isEmpty = false := by
        rw [List.isEmpty_eq_false_iff]
        intro e'
        exact absurd (e.1 e') (by simp)
      rw [h1]
      simp; omega

theorem Done_any (w : World) (ib g : Nat) (st : List Fr) (h : ItX w ib g st) (hg : Good st) : Calls Try.prog 56 #[.pointer (some ⟨ib, 0, none⟩)] w fun e w' => e = .returned (.bool (rest st).isEmpty) ∧ w' = w := by
  obtain ⟨a, c, c0, he⟩ := itx_len h hg
  rw [← he]
  clear h hg he
  go_enter Try.func56, Try.ntmps56
  go_wp2
  go_ret
  exact ⟨rfl, rfl⟩

def NextRes (w : World) (ib g : Nat) (ret : Value) (xs : List (Int × Value)) (e : Ending) (w' : World) : Prop := e = .returned ret ∧ Kept (Two ib g) w w' ∧ ∃ st', ItX w' ib g st' ∧ Good st' ∧ rest st' = xs

set_option maxRecDepth 100000 in
theorem Next_any (w : World) (ib g : Nat) (st : List Fr) (h : ItX w ib g st) (hg : Good st) (p : Int × Int) (xs : List (Int × Value)) (hr : rest st = en p :: xs) :
    Calls Try.prog 57 #[.pointer (some ⟨ib, 0, none⟩)] w (NextRes w ib g (.tuple #[.int .i32 p.1, .iface 3 (.int .i64 p.2)]) xs) := by
  rcases h with ⟨_, rfl⟩ | ⟨cap, h⟩
  · cases hr
  have HN := hid0 (next_any w ib g cap st h hg _ xs hr)
  have HI := hid0 h
  clear h hg hr
  go_enter Try.func57, Try.ntmps57
  go_wp2_with fail
  refine HN.out.mono ?_
  rintro e w1 ⟨b, l, r, hh, ⟨rfl, n2, n3⟩, hb, _⟩
  have hb1 : w1.heap[b]? = some (nodeObj l r (.iface 3 (.int .i64 p.2)) p.1 hh) := by
    refine (n2.block b (block_lt hb) (fun e => ?_)).trans hb
    obtain ⟨ty, h1⟩ := HI.out.hdr
    obtain ⟨cur, h2, _⟩ := HI.out.rowB
    rcases e with rfl | rfl
    · rw [h1] at hb; simp [nodeObj] at hb
    · rw [h2] at hb; simp [nodeObj] at hb
  obtain ⟨t0, t1, t2, t3, t4, tf⟩ := nodeAt hb1
  have HJ := hid0 (And.intro n2 n3)
  clear n2 n3 hb hb1 t0 t1 t4 tf
  go_wp2_with fail
  go_region
  go_wp2
  go_ret2
  obtain ⟨n2, st', n3, n4, n5⟩ := HJ.out
  exact ⟨rfl, n2.drew, st', .inr ⟨cap, n3.ext (S := Non) (Kept.refl _ _).drew (fun h => h) (fun h => h) (fun _ _ _ _ h => h)⟩, n4, n5⟩

end Go.Proofs.Ytehegllgaiehfaa
