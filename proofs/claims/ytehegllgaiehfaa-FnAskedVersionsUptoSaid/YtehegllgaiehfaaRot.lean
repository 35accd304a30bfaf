/- The rotations: rightToRoot and leftToRoot on two nodes of the call's own making. -/
import Derived.Test.YtehegllgaiehfaaNode1
import Derived.Test.YtehegllgaiehfaaPure
namespace Go.Proofs.Ytehegllgaiehfaa
open Go.RowKit

/-- a walk goes on in any world of which the facts are known -/
theorem wp_gen {P : Program} {c : Code} {Q : Exit → Act → World → Prop} {a : Act} {W0 : World} (F : World → Prop) (h0 : F W0) (h : ∀ W, F W → c.wp P Q a W) : c.wp P Q a W0 := h W0 h0

theorem In.drew {w : World} {T : Tr} (h : In w T) : In w.drew T := h.ext (Kept.refl _ _).drew

theorem wrap8 {x : Int} (h : -128 ≤ x ∧ x ≤ 127) : IntKind.i8.wrap x = x := by
  simp only [IntKind.wrap, IntKind.signed, IntKind.bits]; simp; omega

theorem height_at (w : World) (T : Tr) (v : Value) (e : T.ptr = v) (hi : In w T) :
    Calls Try.prog 91 #[v] w fun e w' => e = .returned (.int .i8 (ht T)) ∧ w' = w := e ▸ height_any w T hi

def RotPost (w : World) (tb rb : Nat) (tobj robj : Obj) (e : Ending) (w' : World) : Prop :=
  e = .returned (.pointer (some ⟨rb, 0, none⟩)) ∧ w'.heap[tb]? = some tobj ∧ w'.heap[rb]? = some robj ∧ Kept (Two tb rb) w w'

set_option maxRecDepth 100000 in
theorem rightToRoot_any (w : World) (tb rb : Nat) (A B C : Tr) (d d' : Value) (k k' h h' : Int)
    (ht0 : w.heap[tb]? = some (nodeObj A.ptr (.pointer (some ⟨rb, 0, none⟩)) d k h))
    (hr0 : w.heap[rb]? = some (nodeObj B.ptr C.ptr d' k' h')) (hne : tb ≠ rb)
    (iA : In w A) (iB : In w B) (iC : In w C)
    (nA : ¬ Blk tb A ∧ ¬ Blk rb A) (nB : ¬ Blk tb B ∧ ¬ Blk rb B) (nC : ¬ Blk tb C ∧ ¬ Blk rb C)
    (bA : 0 ≤ ht A ∧ ht A ≤ 100) (bB : 0 ≤ ht B ∧ ht B ≤ 100) (bC : 0 ≤ ht C ∧ ht C ≤ 100) :
    Calls Try.prog 99 #[.pointer (some ⟨tb, 0, none⟩)] w
      (RotPost w tb rb (nodeObj A.ptr B.ptr d k (1 + max (ht B) (ht A))) (nodeObj (.pointer (some ⟨tb, 0, none⟩)) C.ptr d' k' (1 + max (1 + max (ht B) (ht A)) (ht C)))) := by
  obtain ⟨t0, t1, t2, t3, t4, tf⟩ := nodeAt ht0
  obtain ⟨r0, r1, r2, r3, r4, rf⟩ := nodeAt hr0
  obtain ⟨uA, eA⟩ := ptr_form A
  obtain ⟨uB, eB⟩ := ptr_form B
  obtain ⟨uC, eC⟩ := ptr_form C
  have hne' : rb ≠ tb := fun e => hne e.symm
  obtain ⟨m1, hm1⟩ : ∃ m, m = max (ht B) (ht A) := ⟨_, rfl⟩
  obtain ⟨m2, hm2⟩ : ∃ m, m = max (1 + m1) (ht C) := ⟨_, rfl⟩
  rw [← hm1, ← hm2]
  have f1 : (if ht B < ht A then ht A else ht B) = m1 := by rw [hm1]; split <;> omega
  have f2 : (if 1 + m1 < ht C then ht C else 1 + m1) = m2 := by rw [hm2]; split <;> omega
  have g1 : IntKind.i8.wrap (1 + m1) = 1 + m1 := wrap8 (by omega)
  have g2 : IntKind.i8.wrap (1 + m2) = 1 + m2 := wrap8 (by omega)
  clear hm1 hm2
  go_enter Try.func99, Try.ntmps99
  go_wp2
  refine wp_gen (fun W => W.heap[tb]? = some (nodeObj (.pointer uA) (.pointer uB) d k h) ∧ W.heap[rb]? = some (nodeObj (.pointer (some ⟨tb, 0, none⟩)) (.pointer uC) d' k' h') ∧ Kept (Two tb rb) w W) ⟨?_, ?_, ?_⟩ ?_
  · rw [set_block (c := #[.pointer uA, .pointer (some ⟨rb, 0, none⟩), d, .int .i32 k, .int .i8 h]) (e := 104) (z := (0, 0)) (by rw [set_other hne, ht0, eA]; rfl)]; rfl
  · rw [set_other hne', set_block (c := #[.pointer uB, .pointer uC, d', .int .i32 k', .int .i8 h']) (e := 104) (z := (0, 0)) (by rw [hr0, eB, eC]; rfl)]; rfl
  · exact ((Kept.refl _ _).setCell _ _ (fun _ => .inr rfl)).setCell _ _ (fun _ => .inl rfl)
  clear t0 t1 t2 t3 t4 tf r0 r1 r2 r3 r4 rf
  rintro W ⟨hT, hR, hK⟩
  have jA : In W.drew A := (iA.kept hK (fun b hb h => h.elim (fun e => nA.1 (e ▸ hb)) (fun e => nA.2 (e ▸ hb)))).drew
  have jB : In W.drew B := (iB.kept hK (fun b hb h => h.elim (fun e => nB.1 (e ▸ hb)) (fun e => nB.2 (e ▸ hb)))).drew
  have cB := height_at W.drew B _ eB jB
  have cA := height_at W.drew A _ eA jA
  obtain ⟨t0, t1, t2, t3, t4, tf⟩ := nodeAt hT
  refine wp_region_still_tail 12 (by kernel_rfl) (by kernel_rfl) ?_
  simp only [List.take_succ_cons, List.take_zero, List.drop_succ_cons, List.drop_zero]
  still_step
  still_step
  still_call cB
  iterate 4 still_step
  still_call cA
  iterate 4 still_step
  refine wpStill_nil ?_
  go_wp2
  refine wp_gen (fun V => V.heap[tb]? = some (nodeObj (.pointer uA) (.pointer uB) d k (1 + m1)) ∧ V.heap[rb]? = some (nodeObj (.pointer (some ⟨tb, 0, none⟩)) (.pointer uC) d' k' h') ∧ Kept (Two tb rb) w V) ⟨?_, ?_, ?_⟩ ?_
  · exact set_block hT 4 _
  · exact (set_other hne').trans hR
  · exact (hK.setCell _ _ (fun _ => .inl rfl)).drew
  clear t0 t1 t2 t3 t4 tf cA cB jA jB hT hR hK
  rintro V ⟨hT, hR, hK⟩
  have jC : In V.drew C := (iC.kept hK (fun b hb h => h.elim (fun e => nC.1 (e ▸ hb)) (fun e => nC.2 (e ▸ hb)))).drew
  have cC := height_at V.drew C _ eC jC
  obtain ⟨t0, t1, t2, t3, t4, tf⟩ := nodeAt hT
  obtain ⟨r0, r1, r2, r3, r4, rf⟩ := nodeAt hR
  have cT := height_some V.drew tb _ t4
  refine wp_region_still_tail 12 (by kernel_rfl) (by kernel_rfl) ?_
  simp only [List.take_succ_cons, List.take_zero, List.drop_succ_cons, List.drop_zero]
  still_step
  still_step
  still_call cT
  iterate 4 still_step
  still_call cC
  iterate 4 still_step
  refine wpStill_nil ?_
  go_wp2
  go_ret
  refine ⟨rfl, ?_, ?_, (hK.setCell _ _ (fun _ => .inr rfl)).drew⟩
  · rw [eA, eB]
    exact (set_other hne).trans hT
  · rw [eC]
    exact set_block hR 4 _

set_option maxRecDepth 100000 in
theorem leftToRoot_any (w : World) (tb rb : Nat) (A B C : Tr) (d d' : Value) (k k' h h' : Int)
    (ht0 : w.heap[tb]? = some (nodeObj (.pointer (some ⟨rb, 0, none⟩)) A.ptr d k h))
    (hr0 : w.heap[rb]? = some (nodeObj C.ptr B.ptr d' k' h')) (hne : tb ≠ rb)
    (iA : In w A) (iB : In w B) (iC : In w C)
    (nA : ¬ Blk tb A ∧ ¬ Blk rb A) (nB : ¬ Blk tb B ∧ ¬ Blk rb B) (nC : ¬ Blk tb C ∧ ¬ Blk rb C)
    (bA : 0 ≤ ht A ∧ ht A ≤ 100) (bB : 0 ≤ ht B ∧ ht B ≤ 100) (bC : 0 ≤ ht C ∧ ht C ≤ 100) :
    Calls Try.prog 100 #[.pointer (some ⟨tb, 0, none⟩)] w
      (RotPost w tb rb (nodeObj B.ptr A.ptr d k (1 + max (ht B) (ht A))) (nodeObj C.ptr (.pointer (some ⟨tb, 0, none⟩)) d' k' (1 + max (1 + max (ht B) (ht A)) (ht C)))) := by
  obtain ⟨t0, t1, t2, t3, t4, tf⟩ := nodeAt ht0
  obtain ⟨r0, r1, r2, r3, r4, rf⟩ := nodeAt hr0
  obtain ⟨uA, eA⟩ := ptr_form A
  obtain ⟨uB, eB⟩ := ptr_form B
  obtain ⟨uC, eC⟩ := ptr_form C
  have hne' : rb ≠ tb := fun e => hne e.symm
  obtain ⟨m1, hm1⟩ : ∃ m, m = max (ht B) (ht A) := ⟨_, rfl⟩
  obtain ⟨m2, hm2⟩ : ∃ m, m = max (1 + m1) (ht C) := ⟨_, rfl⟩
  rw [← hm1, ← hm2]
  have f1 : (if ht B < ht A then ht A else ht B) = m1 := by rw [hm1]; split <;> omega
  have f2 : (if 1 + m1 < ht C then ht C else 1 + m1) = m2 := by rw [hm2]; split <;> omega
  have g1 : IntKind.i8.wrap (1 + m1) = 1 + m1 := wrap8 (by omega)
  have g2 : IntKind.i8.wrap (1 + m2) = 1 + m2 := wrap8 (by omega)
  clear hm1 hm2
  go_enter Try.func100, Try.ntmps100
  go_wp2
  refine wp_gen (fun W => W.heap[tb]? = some (nodeObj (.pointer uB) (.pointer uA) d k h) ∧ W.heap[rb]? = some (nodeObj (.pointer uC) (.pointer (some ⟨tb, 0, none⟩)) d' k' h') ∧ Kept (Two tb rb) w W) ⟨?_, ?_, ?_⟩ ?_
  · rw [set_block (c := #[.pointer (some ⟨rb, 0, none⟩), .pointer uA, d, .int .i32 k, .int .i8 h]) (e := 104) (z := (0, 0)) (by rw [set_other hne, ht0, eA]; rfl)]; rfl
  · rw [set_other hne', set_block (c := #[.pointer uC, .pointer uB, d', .int .i32 k', .int .i8 h']) (e := 104) (z := (0, 0)) (by rw [hr0, eB, eC]; rfl)]; rfl
  · exact ((Kept.refl _ _).setCell _ _ (fun _ => .inr rfl)).setCell _ _ (fun _ => .inl rfl)
  clear t0 t1 t2 t3 t4 tf r0 r1 r2 r3 r4 rf
  rintro W ⟨hT, hR, hK⟩
  have jA : In W.drew A := (iA.kept hK (fun b hb h => h.elim (fun e => nA.1 (e ▸ hb)) (fun e => nA.2 (e ▸ hb)))).drew
  have jB : In W.drew B := (iB.kept hK (fun b hb h => h.elim (fun e => nB.1 (e ▸ hb)) (fun e => nB.2 (e ▸ hb)))).drew
  have cB := height_at W.drew B _ eB jB
  have cA := height_at W.drew A _ eA jA
  obtain ⟨t0, t1, t2, t3, t4, tf⟩ := nodeAt hT
  refine wp_region_still_tail 12 (by kernel_rfl) (by kernel_rfl) ?_
  simp only [List.take_succ_cons, List.take_zero, List.drop_succ_cons, List.drop_zero]
  still_step
  still_step
  still_call cB
  iterate 4 still_step
  still_call cA
  iterate 4 still_step
  refine wpStill_nil ?_
  go_wp2
  refine wp_gen (fun V => V.heap[tb]? = some (nodeObj (.pointer uB) (.pointer uA) d k (1 + m1)) ∧ V.heap[rb]? = some (nodeObj (.pointer uC) (.pointer (some ⟨tb, 0, none⟩)) d' k' h') ∧ Kept (Two tb rb) w V) ⟨?_, ?_, ?_⟩ ?_
  · exact set_block hT 4 _
  · exact (set_other hne').trans hR
  · exact (hK.setCell _ _ (fun _ => .inl rfl)).drew
  clear t0 t1 t2 t3 t4 tf cA cB jA jB hT hR hK
  rintro V ⟨hT, hR, hK⟩
  have jC : In V.drew C := (iC.kept hK (fun b hb h => h.elim (fun e => nC.1 (e ▸ hb)) (fun e => nC.2 (e ▸ hb)))).drew
  have cC := height_at V.drew C _ eC jC
  obtain ⟨t0, t1, t2, t3, t4, tf⟩ := nodeAt hT
  obtain ⟨r0, r1, r2, r3, r4, rf⟩ := nodeAt hR
  have cT := height_some V.drew tb _ t4
  refine wp_region_still_tail 12 (by kernel_rfl) (by kernel_rfl) ?_
  simp only [List.take_succ_cons, List.take_zero, List.drop_succ_cons, List.drop_zero]
  still_step
  still_step
  still_call cT
  iterate 4 still_step
  still_call cC
  iterate 4 still_step
  refine wpStill_nil ?_
  go_wp2
  go_ret
  refine ⟨rfl, ?_, ?_, (hK.setCell _ _ (fun _ => .inr rfl)).drew⟩
  · rw [eA, eB]
    exact (set_other hne).trans hT
  · rw [eC]
    exact set_block hR 4 _

end Go.Proofs.Ytehegllgaiehfaa
