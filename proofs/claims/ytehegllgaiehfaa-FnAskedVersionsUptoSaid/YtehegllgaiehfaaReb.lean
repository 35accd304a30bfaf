/- aRebalanceAfterLeftDeletion, aRebalanceAfterRightDeletion. -/
import Derived.Test.YtehegllgaiehfaaIns
namespace Go.Proofs.Ytehegllgaiehfaa
open Go.RowKit

theorem hid0 {p : Prop} (h : p) : Hid p := h
def RebPost (w : World) (tb : Nat) (xs : List (Int × Value)) (h : Int) (e : Ending) (w' : World) : Prop :=
  ∃ T' : Tr, e = .returned T'.ptr ∧ In w' T' ∧ toL T' = xs ∧ Avl T' ∧ DataOk T' ∧ (ht T' = h ∨ ht T' = h - 1) ∧ Kept (One tb) w w' ∧ RootP (fun b => b = tb ∨ w.heap.size ≤ b) T'
theorem In.set {w w' : World} {T : Tr} {tb : Nat} (hi : In w T) (hk : Kept (One tb) w w') (hn : ¬ Blk tb T) : In w' T := hi.kept hk (fun b hb e => by have e' : b = tb := e; subst e'; exact hn hb)

set_option maxRecDepth 100000 in
theorem rebL (w : World) (tb : Nat) (T1 r : Tr) (l0 d : Value) (k h oh : Int) (hT : w.heap[tb]? = some (nodeObj l0 r.ptr d k h)) (i1 : In w T1) (ir : In w r) (a1 : Avl T1) (ar : Avl r)
    (hs : Srt (toL (.node tb 0 (k, d, h) T1 r))) (hd : DataOk (.node tb 0 (k, d, h) T1 r)) (hh : h = 1 + max oh (ht r)) (h1 : oh ≤ ht r + 1) (h2 : ht r ≤ oh + 1) (h3 : ht T1 = oh ∨ ht T1 = oh - 1) (hb : h ≤ 80) :
    Calls Try.prog 95 #[.pointer (some ⟨tb, 0, none⟩), .int .i8 oh, T1.ptr] w (RebPost w tb (toL T1 ++ (k, d) :: toL r) h) := by
  obtain ⟨s1, s2, s3, s4, _⟩ := hs.parts
  have n1 : ¬ Blk tb T1 := i1.not_blk hT (fun v hv => by have := s3 _ hv; simp at this)
  have n2 : ¬ Blk tb r := ir.not_blk hT (fun v hv => by have := s4 _ hv; simp at this)
  obtain ⟨u1, f1⟩ := ptr_form T1
  obtain ⟨ur, fr⟩ := ptr_form r
  have t10 := Avl.ht_nonneg a1
  have tr0 := Avl.ht_nonneg ar
  obtain ⟨tt0, tt1, tt2, tt3, tt4, ttf⟩ := nodeAt hT
  have HH := hid0 (And.intro hT (And.intro i1 (And.intro ir (And.intro a1 (And.intro ar (And.intro hs (And.intro hd (And.intro n1 n2))))))))
  have HB := hid0 (And.intro hh (And.intro h1 (And.intro h2 (And.intro h3 (And.intro hb (And.intro t10 tr0))))))
  rw [f1]
  clear s1 s2 s3 s4 n1 n2 hT i1 ir a1 ar hs hd hh h1 h2 h3 hb t10 tr0
  go_enter Try.func95, Try.ntmps95
  go_wp2_with fail
  refine (height_at _ T1 _ f1 (HH.out.2.1.set ((Kept.refl _ _).setOne _ _) HH.out.2.2.2.2.2.2.2.1)).mono ?_
  rintro e W ⟨rfl, hw⟩
  have hKW : Kept (One tb) w W := by rw [hw]; exact (Kept.refl _ _).setOne _ _
  have hTW : W.heap[tb]? = some (nodeObj T1.ptr r.ptr d k h) := by rw [hw, f1]; exact set_block HH.out.1 0 _
  have i1W := HH.out.2.1.set hKW HH.out.2.2.2.2.2.2.2.1
  have irW := HH.out.2.2.1.set hKW HH.out.2.2.2.2.2.2.2.2
  have HW := hid0 (And.intro hKW (And.intro hTW (And.intro i1W irW)))
  have hlt : w.heap.size ≤ W.heap.size := hKW.size
  clear hw tt0 tt1 tt2 tt3 tt4 ttf
  obtain ⟨tt0, tt1, tt2, tt3, tt4, ttf⟩ := nodeAt hTW
  rw [f1] at tt0
  rw [fr] at tt1
  clear hKW hTW i1W irW
  by_cases e1 : oh = ht T1
  · have q1 : (oh == ht T1) = true := by simpa using e1
    have HE := hid0 e1
    clear e1
    go_wp2
    go_ret
    obtain ⟨_, i1, ir, a1, ar, hs, hd, n1, n2⟩ := HH.out
    obtain ⟨b1, b2, b3, b4, b5, b6, b7⟩ := HB.out
    have e1 := HE.out
    exact ⟨.node tb 0 (k, d, h) T1 r, rfl, ⟨rfl, HW.out.2.1, HW.out.2.2.1, HW.out.2.2.2⟩, rfl, avl_mk (by simp only; omega) (by omega) (by omega) a1 ar, hd, .inl rfl, HW.out.1, .inl rfl⟩
  · have q1 : (oh == ht T1) = false := by simpa using e1
    have HE := hid0 e1
    clear e1
    go_wp2_with fail
    refine (height_at W r _ fr HW.out.2.2.2).mono ?_
    rintro e w' ⟨rfl, rfl⟩
    by_cases e2 : oh = ht r
    · have q2 : (oh == ht r) = true := by simpa using e2
      have HE2 := hid0 e2
      clear e2
      go_wp2
      go_ret
      obtain ⟨_, i1, ir, a1, ar, hs, hd, n1, n2⟩ := HH.out
      obtain ⟨b1, b2, b3, b4, b5, b6, b7⟩ := HB.out
      have e1 := HE.out
      have e2 := HE2.out
      exact ⟨.node tb 0 (k, d, h) T1 r, rfl, ⟨rfl, HW.out.2.1, HW.out.2.2.1, HW.out.2.2.2⟩, rfl, avl_mk (by simp only; omega) (by omega) (by omega) a1 ar, hd, .inl rfl, HW.out.1, .inl rfl⟩
    · have q2 : (oh == ht r) = false := by simpa using e2
      have HE2 := hid0 e2
      clear e2
      go_wp2_with fail
      refine (height_at _ r _ fr HW.out.2.2.2).mono ?_
      rintro e w' ⟨rfl, rfl⟩
      by_cases e3 : ht r < oh
      · have g : IntKind.i8.wrap (h - 1) = h - 1 := by
          obtain ⟨b1, b2, b3, b4, b5, b6, b7⟩ := HB.out
          exact wrap8 (by omega)
        have HE3 := hid0 e3
        go_wp2
        go_ret
        obtain ⟨_, i1, ir, a1, ar, hs, hd, n1, n2⟩ := HH.out
        obtain ⟨b1, b2, b3, b4, b5, b6, b7⟩ := HB.out
        have e1 := HE.out
        have e2 := HE2.out
        have e3 := HE3.out
        have hK2 : Kept (One tb) w' (w'.setCell ⟨tb, 4, none⟩ (.int .i8 (h - 1))) := (Kept.refl _ _).setOne _ _
        exact ⟨.node tb 0 (k, d, h - 1) T1 r, rfl, ⟨rfl, set_block HW.out.2.1 4 _, HW.out.2.2.1.set hK2 n1, HW.out.2.2.2.set hK2 n2⟩, rfl, avl_mk (by simp only; omega) (by omega) (by omega) a1 ar, hd, .inr rfl, HW.out.1.trans hK2, .inl rfl⟩
      · have HE3 := hid0 e3
        cases r with
        | nil =>
          obtain ⟨b1, b2, b3, b4, b5, b6, b7⟩ := HB.out
          have e1 := HE.out
          have e2 := HE2.out
          simp only [ht] at *
          omega
        | node rb o a inner outer =>
          obtain ⟨k', d', h'⟩ := a
          have ho : o = 0 := HH.out.2.2.1.1
          subst ho
          have hur : ur = some ⟨rb, 0, none⟩ := by simpa [Deep.BT.ptr] using fr.symm
          subst hur
          have hRb : w'.heap[rb]? = some (nodeObj inner.ptr outer.ptr d' k' h') := HW.out.2.2.2.2.1
          have HC := hid0 (copy_abs w' rb _ _ d' k' h' (ptr_form _) (ptr_form _) HH.out.2.2.2.2.2.2.1.2.2.1 hRb)
          clear hRb
          go_wp2_with fail
          refine HC.out.mono ?_
          rintro e W2 ⟨rfl, g1, g2, g3⟩
          have hT2 : W2.heap[tb]? = some (nodeObj T1.ptr (.pointer (some ⟨rb, 0, none⟩)) d k h) := (g2.block tb (block_lt HW.out.2.1) (fun h => h)).trans HW.out.2.1
          have HG := hid0 (And.intro g1 (And.intro g2 hT2))
          clear tt0 tt1 tt2 tt3 tt4 ttf HC
          obtain ⟨tt0, tt1, tt2, tt3, tt4, ttf⟩ := nodeAt hT2
          rw [f1] at tt0
          clear g1 g2 g3 hT2
          go_wp2_with fail
          have HK3 := hid0 (HG.out.2.1.one.setOne 1 (.pointer (some ⟨w'.heap.size, 0, none⟩)) : Kept (One tb) w' _)
          obtain ⟨_, i1, ir, a1, ar, hs, hd, n1, n2⟩ := HH.out
          obtain ⟨b1, b2, b3, b4, b5, b6, b7⟩ := HB.out
          have e1 := HE.out
          have e2 := HE2.out
          have b8 : ht (Deep.BT.node rb 0 (k', d', h') inner outer) = h' := rfl
          have hne : w'.heap.size ≠ tb := Nat.ne_of_gt (block_lt HW.out.2.1)
          refine (aRightIsHigh_any _ tb w'.heap.size outer inner T1 d d' k k' h h' none (.inl rfl) ⟨rfl, set_block HG.out.2.2 1 _, HW.out.2.2.1.set HK3.out n1, rfl, (set_other hne).trans HG.out.1, HW.out.2.2.2.2.2.1.set HK3.out (fun hb => n2 (.inr (.inl hb))), HW.out.2.2.2.2.2.2.set HK3.out (fun hb => n2 (.inr (.inr hb)))⟩ hs hd ar a1 (by omega) (by omega)).mono ?_
          rintro e W4 ⟨T', rfl, z1, z2, z3, z4, z5, z6, z7, z8⟩
          go_wp2
          go_ret
          refine ⟨T', rfl, z1, z2, z3, z4, by omega, (HW.out.1.trans HK3.out).trans' z6 (fun i hi h => ?_), z7.mono (fun b hb => ?_)⟩
          · rcases h with h | h | h
            · exact h
            · omega
            · cases h
          · rcases hb with hb | hb | hb
            · exact .inr (by omega)
            · exact .inr (Nat.le_trans (HW.out.1.trans HK3.out).size hb)
            · cases hb

set_option maxRecDepth 100000 in
theorem rebR (w : World) (tb : Nat) (T1 r : Tr) (l0 d : Value) (k h oh : Int) (hT : w.heap[tb]? = some (nodeObj r.ptr l0 d k h)) (i1 : In w T1) (ir : In w r) (a1 : Avl T1) (ar : Avl r)
    (hs : Srt (toL (.node tb 0 (k, d, h) r T1))) (hd : DataOk (.node tb 0 (k, d, h) r T1)) (hh : h = 1 + max oh (ht r)) (h1 : oh ≤ ht r + 1) (h2 : ht r ≤ oh + 1) (h3 : ht T1 = oh ∨ ht T1 = oh - 1) (hb : h ≤ 80) :
    Calls Try.prog 96 #[.pointer (some ⟨tb, 0, none⟩), .int .i8 oh, T1.ptr] w (RebPost w tb (toL r ++ (k, d) :: toL T1) h) := by
  obtain ⟨s1, s2, s3, s4, _⟩ := hs.parts
  have n1 : ¬ Blk tb T1 := i1.not_blk hT (fun v hv => by have := s4 _ hv; simp at this)
  have n2 : ¬ Blk tb r := ir.not_blk hT (fun v hv => by have := s3 _ hv; simp at this)
  obtain ⟨u1, f1⟩ := ptr_form T1
  obtain ⟨ur, fr⟩ := ptr_form r
  have t10 := Avl.ht_nonneg a1
  have tr0 := Avl.ht_nonneg ar
  obtain ⟨tt0, tt1, tt2, tt3, tt4, ttf⟩ := nodeAt hT
  have HH := hid0 (And.intro hT (And.intro i1 (And.intro ir (And.intro a1 (And.intro ar (And.intro hs (And.intro hd (And.intro n1 n2))))))))
  have HB := hid0 (And.intro hh (And.intro h1 (And.intro h2 (And.intro h3 (And.intro hb (And.intro t10 tr0))))))
  rw [f1]
  clear s1 s2 s3 s4 n1 n2 hT i1 ir a1 ar hs hd hh h1 h2 h3 hb t10 tr0
  go_enter Try.func96, Try.ntmps96
  go_wp2_with fail
  refine (height_at _ T1 _ f1 (HH.out.2.1.set ((Kept.refl _ _).setOne _ _) HH.out.2.2.2.2.2.2.2.1)).mono ?_
  rintro e W ⟨rfl, hw⟩
  have hKW : Kept (One tb) w W := by rw [hw]; exact (Kept.refl _ _).setOne _ _
  have hTW : W.heap[tb]? = some (nodeObj r.ptr T1.ptr d k h) := by rw [hw, f1]; exact set_block HH.out.1 1 _
  have i1W := HH.out.2.1.set hKW HH.out.2.2.2.2.2.2.2.1
  have irW := HH.out.2.2.1.set hKW HH.out.2.2.2.2.2.2.2.2
  have HW := hid0 (And.intro hKW (And.intro hTW (And.intro i1W irW)))
  have hlt : w.heap.size ≤ W.heap.size := hKW.size
  clear hw tt0 tt1 tt2 tt3 tt4 ttf
  obtain ⟨tt0, tt1, tt2, tt3, tt4, ttf⟩ := nodeAt hTW
  rw [f1] at tt1
  rw [fr] at tt0
  clear hKW hTW i1W irW
  by_cases e1 : oh = ht T1
  · have q1 : (oh == ht T1) = true := by simpa using e1
    have HE := hid0 e1
    clear e1
    go_wp2
    go_ret
    obtain ⟨_, i1, ir, a1, ar, hs, hd, n1, n2⟩ := HH.out
    obtain ⟨b1, b2, b3, b4, b5, b6, b7⟩ := HB.out
    have e1 := HE.out
    exact ⟨.node tb 0 (k, d, h) r T1, rfl, ⟨rfl, HW.out.2.1, HW.out.2.2.2, HW.out.2.2.1⟩, rfl, avl_mk (by simp only; omega) (by omega) (by omega) ar a1, hd, .inl rfl, HW.out.1, .inl rfl⟩
  · have q1 : (oh == ht T1) = false := by simpa using e1
    have HE := hid0 e1
    clear e1
    go_wp2_with fail
    refine (height_at W r _ fr HW.out.2.2.2).mono ?_
    rintro e w' ⟨rfl, rfl⟩
    by_cases e2 : oh = ht r
    · have q2 : (oh == ht r) = true := by simpa using e2
      have HE2 := hid0 e2
      clear e2
      go_wp2
      go_ret
      obtain ⟨_, i1, ir, a1, ar, hs, hd, n1, n2⟩ := HH.out
      obtain ⟨b1, b2, b3, b4, b5, b6, b7⟩ := HB.out
      have e1 := HE.out
      have e2 := HE2.out
      exact ⟨.node tb 0 (k, d, h) r T1, rfl, ⟨rfl, HW.out.2.1, HW.out.2.2.2, HW.out.2.2.1⟩, rfl, avl_mk (by simp only; omega) (by omega) (by omega) ar a1, hd, .inl rfl, HW.out.1, .inl rfl⟩
    · have q2 : (oh == ht r) = false := by simpa using e2
      have HE2 := hid0 e2
      clear e2
      go_wp2_with fail
      refine (height_at _ r _ fr HW.out.2.2.2).mono ?_
      rintro e w' ⟨rfl, rfl⟩
      by_cases e3 : ht r < oh
      · have g : IntKind.i8.wrap (h - 1) = h - 1 := by
          obtain ⟨b1, b2, b3, b4, b5, b6, b7⟩ := HB.out
          exact wrap8 (by omega)
        have HE3 := hid0 e3
        go_wp2
        go_ret
        obtain ⟨_, i1, ir, a1, ar, hs, hd, n1, n2⟩ := HH.out
        obtain ⟨b1, b2, b3, b4, b5, b6, b7⟩ := HB.out
        have e1 := HE.out
        have e2 := HE2.out
        have e3 := HE3.out
        have hK2 : Kept (One tb) w' (w'.setCell ⟨tb, 4, none⟩ (.int .i8 (h - 1))) := (Kept.refl _ _).setOne _ _
        exact ⟨.node tb 0 (k, d, h - 1) r T1, rfl, ⟨rfl, set_block HW.out.2.1 4 _, HW.out.2.2.2.set hK2 n2, HW.out.2.2.1.set hK2 n1⟩, rfl, avl_mk (by simp only; omega) (by omega) (by omega) ar a1, hd, .inr rfl, HW.out.1.trans hK2, .inl rfl⟩
      · have HE3 := hid0 e3
        cases r with
        | nil =>
          obtain ⟨b1, b2, b3, b4, b5, b6, b7⟩ := HB.out
          have e1 := HE.out
          have e2 := HE2.out
          simp only [ht] at *
          omega
        | node rb o a outer inner =>
          obtain ⟨k', d', h'⟩ := a
          have ho : o = 0 := HH.out.2.2.1.1
          subst ho
          have hur : ur = some ⟨rb, 0, none⟩ := by simpa [Deep.BT.ptr] using fr.symm
          subst hur
          have hRb : w'.heap[rb]? = some (nodeObj outer.ptr inner.ptr d' k' h') := HW.out.2.2.2.2.1
          have HC := hid0 (copy_abs w' rb _ _ d' k' h' (ptr_form _) (ptr_form _) HH.out.2.2.2.2.2.2.1.2.1.1 hRb)
          clear hRb
          go_wp2_with fail
          refine HC.out.mono ?_
          rintro e W2 ⟨rfl, g1, g2, g3⟩
          have hT2 : W2.heap[tb]? = some (nodeObj (.pointer (some ⟨rb, 0, none⟩)) T1.ptr d k h) := (g2.block tb (block_lt HW.out.2.1) (fun h => h)).trans HW.out.2.1
          have HG := hid0 (And.intro g1 (And.intro g2 hT2))
          clear tt0 tt1 tt2 tt3 tt4 ttf HC
          obtain ⟨tt0, tt1, tt2, tt3, tt4, ttf⟩ := nodeAt hT2
          rw [f1] at tt1
          clear g1 g2 g3 hT2
          go_wp2_with fail
          have HK3 := hid0 (HG.out.2.1.one.setOne 0 (.pointer (some ⟨w'.heap.size, 0, none⟩)) : Kept (One tb) w' _)
          obtain ⟨_, i1, ir, a1, ar, hs, hd, n1, n2⟩ := HH.out
          obtain ⟨b1, b2, b3, b4, b5, b6, b7⟩ := HB.out
          have e1 := HE.out
          have e2 := HE2.out
          have b8 : ht (Deep.BT.node rb 0 (k', d', h') outer inner) = h' := rfl
          have hne : w'.heap.size ≠ tb := Nat.ne_of_gt (block_lt HW.out.2.1)
          refine (aLeftIsHigh_any _ tb w'.heap.size outer inner T1 d d' k k' h h' none (.inl rfl) ⟨rfl, set_block HG.out.2.2 0 _, ⟨rfl, (set_other hne).trans HG.out.1, HW.out.2.2.2.2.2.1.set HK3.out (fun hb => n2 (.inr (.inl hb))), HW.out.2.2.2.2.2.2.set HK3.out (fun hb => n2 (.inr (.inr hb)))⟩, HW.out.2.2.1.set HK3.out n1⟩ hs hd ar a1 (by omega) (by omega)).mono ?_
          rintro e W4 ⟨T', rfl, z1, z2, z3, z4, z5, z6, z7, z8⟩
          go_wp2
          go_ret
          refine ⟨T', rfl, z1, z2, z3, z4, by omega, (HW.out.1.trans HK3.out).trans' z6 (fun i hi h => ?_), z7.mono (fun b hb => ?_)⟩
          · rcases h with h | h | h
            · exact h
            · omega
            · cases h
          · rcases hb with hb | hb | hb
            · exact .inr (by omega)
            · exact .inr (Nat.le_trans (HW.out.1.trans HK3.out).size hb)
            · cases hb

end Go.Proofs.Ytehegllgaiehfaa
