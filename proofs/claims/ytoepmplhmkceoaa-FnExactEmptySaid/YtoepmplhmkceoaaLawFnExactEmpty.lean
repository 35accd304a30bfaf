/- laws.eqFound, laws.eqAnswers, spec.Empty, impl.Empty, FnExactEmpty. -/
import Derived.Test.YtoepmplhmkceoaaAsk
import Derived.Test.YtoepmplhmkceoaaOpen
namespace Go.Proofs.Ytoepmplhmkceoaa
open Go.RowKit

def RetB (w : World) (b : Bool) (e : Ending) (w' : World) : Prop := e = .returned (.bool b) ∧ Kept Non w w'

set_option maxRecDepth 100000 in
theorem eqFound_any (w : World) (a b : Int) (p : Bool) : Calls Try.prog 41 #[.agg #[.int .i32 a, .int .i64 b, .bool p], .agg #[.int .i32 a, .int .i64 b, .bool p]] w (RetB w true) := by
  go_enter Try.func41, Try.ntmps41
  go_wp2
  refine bodyPost_ret (results_tmp rfl _ _ _) rfl ⟨rfl, ?_⟩
  repeat (first | exact Kept.refl _ _ | refine Kept.alloc ?_ _)

theorem AnAt.alloc {w : World} {b : Nat} {a : An} (h : AnAt w b a) (o : Obj) : AnAt (w.alloc o) b a := h.ext ((Kept.refl _ _).alloc _)
theorem heap_size_alloc (w : World) (o : Obj) : (w.alloc o).heap.size = w.heap.size + 1 := by simp
theorem alloc_at {w : World} {b : Nat} (o : Obj) (h : b = w.heap.size) : (w.alloc o).heap[b]? = some o := h ▸ alloc_new w o
set_option maxRecDepth 100000 in
theorem eqAnswers_any (w : World) (a : An) : Calls Try.prog 17 #[anV a, anV a] w (RetB w true) := by
  obtain ⟨f0, f1, f2, f3, f4, f5, f6, n, e, s⟩ := a
  unfold anV
  go_enter Try.func17, Try.ntmps17

  go_wp2_with fail
  refine (eqFound_any _ _ _ _).mono ?_
  rintro e' W1 ⟨rfl, g⟩
  have HG1 := hid (And.intro ((((Kept.refl _ w).alloc _).alloc _).trans g) (And.intro (AnAt.ext (a := (⟨f0, f1, f2, f3, f4, f5, f6, n, e, s⟩ : An)) (AnAt.alloc ⟨alloc_new w _⟩ _) g) (AnAt.ext (a := (⟨f0, f1, f2, f3, f4, f5, f6, n, e, s⟩ : An)) (b := w.heap.size + 1) ⟨by have := alloc_new (w.alloc (.cells (anC (⟨f0, f1, f2, f3, f4, f5, f6, n, e, s⟩ : An)) 25)) (.cells (anC (⟨f0, f1, f2, f3, f4, f5, f6, n, e, s⟩ : An)) 25); rwa [heap_size_alloc] at this⟩ g)))
  clear g
  obtain ⟨r0, r1, r2, r3, r4, r5, r6, r7, r8, r9, r10, r11, r12, r13, r14, r15, r16, r17, r18, r19, r20, r21, r22, r23⟩ := HG1.out.2.1.all
  obtain ⟨q0, q1, q2, q3, q4, q5, q6, q7, q8, q9, q10, q11, q12, q13, q14, q15, q16, q17, q18, q19, q20, q21, q22, q23⟩ := HG1.out.2.2.all
  go_wp2_with fail
  refine (eqFound_any _ _ _ _).mono ?_
  rintro e' W2 ⟨rfl, g⟩
  have HG2 := hid (And.intro (HG1.out.1.trans g) (And.intro (HG1.out.2.1.ext g) (HG1.out.2.2.ext g)))
  clear g HG1 r0 r1 r2 r3 r4 r5 r6 r7 r8 r9 r10 r11 r12 r13 r14 r15 r16 r17 r18 r19 r20 r21 r22 r23 q0 q1 q2 q3 q4 q5 q6 q7 q8 q9 q10 q11 q12 q13 q14 q15 q16 q17 q18 q19 q20 q21 q22 q23
  obtain ⟨r0, r1, r2, r3, r4, r5, r6, r7, r8, r9, r10, r11, r12, r13, r14, r15, r16, r17, r18, r19, r20, r21, r22, r23⟩ := HG2.out.2.1.all
  obtain ⟨q0, q1, q2, q3, q4, q5, q6, q7, q8, q9, q10, q11, q12, q13, q14, q15, q16, q17, q18, q19, q20, q21, q22, q23⟩ := HG2.out.2.2.all
  go_wp2_with fail
  refine (eqFound_any _ _ _ _).mono ?_
  rintro e' W3 ⟨rfl, g⟩
  have HG3 := hid (And.intro (HG2.out.1.trans g) (And.intro (HG2.out.2.1.ext g) (HG2.out.2.2.ext g)))
  clear g HG2 r0 r1 r2 r3 r4 r5 r6 r7 r8 r9 r10 r11 r12 r13 r14 r15 r16 r17 r18 r19 r20 r21 r22 r23 q0 q1 q2 q3 q4 q5 q6 q7 q8 q9 q10 q11 q12 q13 q14 q15 q16 q17 q18 q19 q20 q21 q22 q23
  obtain ⟨r0, r1, r2, r3, r4, r5, r6, r7, r8, r9, r10, r11, r12, r13, r14, r15, r16, r17, r18, r19, r20, r21, r22, r23⟩ := HG3.out.2.1.all
  obtain ⟨q0, q1, q2, q3, q4, q5, q6, q7, q8, q9, q10, q11, q12, q13, q14, q15, q16, q17, q18, q19, q20, q21, q22, q23⟩ := HG3.out.2.2.all
  go_wp2_with fail
  refine (eqFound_any _ _ _ _).mono ?_
  rintro e' W4 ⟨rfl, g⟩
  have HG4 := hid (And.intro (HG3.out.1.trans g) (And.intro (HG3.out.2.1.ext g) (HG3.out.2.2.ext g)))
  clear g HG3 r0 r1 r2 r3 r4 r5 r6 r7 r8 r9 r10 r11 r12 r13 r14 r15 r16 r17 r18 r19 r20 r21 r22 r23 q0 q1 q2 q3 q4 q5 q6 q7 q8 q9 q10 q11 q12 q13 q14 q15 q16 q17 q18 q19 q20 q21 q22 q23
  obtain ⟨r0, r1, r2, r3, r4, r5, r6, r7, r8, r9, r10, r11, r12, r13, r14, r15, r16, r17, r18, r19, r20, r21, r22, r23⟩ := HG4.out.2.1.all
  obtain ⟨q0, q1, q2, q3, q4, q5, q6, q7, q8, q9, q10, q11, q12, q13, q14, q15, q16, q17, q18, q19, q20, q21, q22, q23⟩ := HG4.out.2.2.all
  go_wp2_with fail
  refine (eqFound_any _ _ _ _).mono ?_
  rintro e' W5 ⟨rfl, g⟩
  have HG5 := hid (And.intro (HG4.out.1.trans g) (And.intro (HG4.out.2.1.ext g) (HG4.out.2.2.ext g)))
  clear g HG4 r0 r1 r2 r3 r4 r5 r6 r7 r8 r9 r10 r11 r12 r13 r14 r15 r16 r17 r18 r19 r20 r21 r22 r23 q0 q1 q2 q3 q4 q5 q6 q7 q8 q9 q10 q11 q12 q13 q14 q15 q16 q17 q18 q19 q20 q21 q22 q23
  obtain ⟨r0, r1, r2, r3, r4, r5, r6, r7, r8, r9, r10, r11, r12, r13, r14, r15, r16, r17, r18, r19, r20, r21, r22, r23⟩ := HG5.out.2.1.all
  obtain ⟨q0, q1, q2, q3, q4, q5, q6, q7, q8, q9, q10, q11, q12, q13, q14, q15, q16, q17, q18, q19, q20, q21, q22, q23⟩ := HG5.out.2.2.all
  go_wp2_with fail
  refine (eqFound_any _ _ _ _).mono ?_
  rintro e' W6 ⟨rfl, g⟩
  have HG6 := hid (And.intro (HG5.out.1.trans g) (And.intro (HG5.out.2.1.ext g) (HG5.out.2.2.ext g)))
  clear g HG5 r0 r1 r2 r3 r4 r5 r6 r7 r8 r9 r10 r11 r12 r13 r14 r15 r16 r17 r18 r19 r20 r21 r22 r23 q0 q1 q2 q3 q4 q5 q6 q7 q8 q9 q10 q11 q12 q13 q14 q15 q16 q17 q18 q19 q20 q21 q22 q23
  obtain ⟨r0, r1, r2, r3, r4, r5, r6, r7, r8, r9, r10, r11, r12, r13, r14, r15, r16, r17, r18, r19, r20, r21, r22, r23⟩ := HG6.out.2.1.all
  obtain ⟨q0, q1, q2, q3, q4, q5, q6, q7, q8, q9, q10, q11, q12, q13, q14, q15, q16, q17, q18, q19, q20, q21, q22, q23⟩ := HG6.out.2.2.all
  go_wp2_with fail
  refine (eqFound_any _ _ _ _).mono ?_
  rintro e' W7 ⟨rfl, g⟩
  have HG7 := hid (And.intro (HG6.out.1.trans g) (And.intro (HG6.out.2.1.ext g) (HG6.out.2.2.ext g)))
  clear g HG6 r0 r1 r2 r3 r4 r5 r6 r7 r8 r9 r10 r11 r12 r13 r14 r15 r16 r17 r18 r19 r20 r21 r22 r23 q0 q1 q2 q3 q4 q5 q6 q7 q8 q9 q10 q11 q12 q13 q14 q15 q16 q17 q18 q19 q20 q21 q22 q23
  obtain ⟨r0, r1, r2, r3, r4, r5, r6, r7, r8, r9, r10, r11, r12, r13, r14, r15, r16, r17, r18, r19, r20, r21, r22, r23⟩ := HG7.out.2.1.all
  obtain ⟨q0, q1, q2, q3, q4, q5, q6, q7, q8, q9, q10, q11, q12, q13, q14, q15, q16, q17, q18, q19, q20, q21, q22, q23⟩ := HG7.out.2.2.all
  have HK := hid HG7.out.1
  clear HG7
  go_wp2
  refine bodyPost_ret (results_tmp rfl _ _ _) rfl ⟨rfl, HK.out⟩

set_option maxRecDepth 100000 in
theorem SpecEmpty_any (w : World) (x : Int) : Calls Try.prog 15 #[.int .i32 x] w (RetA w (ask x [])) := by
  go_enter Try.func15, Try.ntmps15
  go_wp2_with fail
  refine (Ask_any _ _ [] x ⟨_, _, rfl, fun i x h => by simp at h⟩ (by simp)).mono ?_
  rintro e W1 ⟨rfl, g⟩
  have HG := hid (And.intro ((((Kept.refl _ w).alloc _).alloc _).trans g) (AnAt.ext (a := ⟨(0, 0, false), (0, 0, false), (0, 0, false), (0, 0, false), (0, 0, false), (0, 0, false), (0, 0, false), 0, false, false⟩) (AnAt.alloc ⟨alloc_new w _⟩ _) g))
  clear g
  go_wp2_with (refine wpList_store_row rfl 25 (.tmp 2) (.tmp 5) rfl w.heap.size (anC (ask x [])) rfl rfl _ _ HG.out.2.blk (by kernel_rfl) rfl (anC_one _) ?_)
  go_wp2
  refine bodyPost_ret (v := .agg (anC (ask x []))) ?_ rfl ⟨rfl, ?_⟩
  · exact results_row (ty := 25) rfl _ _ w.heap.size _ (anC (ask x [])) _ rfl (setRow_heap _ _ _ _ _ _ HG.out.2.blk) (by kernel_rfl) (by kernel_rfl)
  exact HG.out.1.setRow _ (Nat.le_refl _) _

set_option maxRecDepth 100000 in
theorem ImplEmpty_any (w : World) (x : Int) : Calls Try.prog 16 #[.int .i32 x] w (RetA w (ask x [])) := by
  go_enter Try.func16, Try.ntmps16
  go_wp2_with fail
  refine (answers_any _ _ 0 [] x (Head.at (Head.empty (alloc_at _ (by simp))))).mono ?_
  rintro e W1 ⟨rfl, g⟩
  have HG := hid (And.intro ((((Kept.refl _ w).alloc _).alloc _).trans g) (AnAt.ext (a := ⟨(0, 0, false), (0, 0, false), (0, 0, false), (0, 0, false), (0, 0, false), (0, 0, false), (0, 0, false), 0, false, false⟩) (AnAt.alloc ⟨alloc_new w _⟩ _) g))
  clear g
  go_wp2_with (refine wpList_store_row rfl 25 (.tmp 2) (.tmp 6) rfl w.heap.size (anC (ask x [])) rfl rfl _ _ HG.out.2.blk (by kernel_rfl) rfl (anC_one _) ?_)
  go_wp2
  refine bodyPost_ret (v := .agg (anC (ask x []))) ?_ rfl ⟨rfl, ?_⟩
  · exact results_row (ty := 25) rfl _ _ w.heap.size _ (anC (ask x [])) _ rfl (setRow_heap _ _ _ _ _ _ HG.out.2.blk) (by kernel_rfl) (by kernel_rfl)
  exact HG.out.1.setRow _ (Nat.le_refl _) _

theorem load_row {P : Program} {ops : Array Oper} {rest : List Oper} {o : Oper} {a : Act} {w : World} {Q : Exit → Act → World → Prop} (hgd : o.guard = none) (ty : TypeId) (x : Operand) (ho : o.op = .load ty x)
    (g : Nat) (hx : a.eval x = .pointer (some ⟨g, 0, none⟩)) (t : TypeId) (cs : Array Value) (fr : Nat × Nat) (hg : w.heap[g]? = some (.cells cs t fr))
    (hr : isRow P ty = true) (hi : (P.info? ty).map (·.size) = some cs.size)
    (h : wpList P ops Q rest (a.put o.dst (.agg cs)) w) : wpList P ops Q (o :: rest) a w := by
  unfold isRow at hr
  cases hq : P.underlying ty with
  | none => rw [hq] at hr; cases hr
  | some d => rw [hq] at hr; cases d <;> first | exact wpList_load_row hgd ty x ho g hx t cs fr _ hg hq rfl hi h | cases hr

set_option maxRecDepth 100000 in
theorem FnExactEmpty_walk (w : World) (x : Int) (_hx : -2147483648 ≤ x ∧ x ≤ 2147483647) : Calls Try.prog 3 #[.int .i32 x] w fun e w' => e = .returned (.bool true) ∧ Kept Non w w' := by
  go_enter Try.func3, Try.ntmps3
  go_wp2_with fail
  refine (SpecEmpty_any _ x).mono ?_
  rintro e W1 ⟨rfl, g⟩
  have HG1 := hid (And.intro g (AnAt.mk (alloc_new W1 (.cells (anC ⟨(0, 0, false), (0, 0, false), (0, 0, false), (0, 0, false), (0, 0, false), (0, 0, false), (0, 0, false), 0, false, false⟩) 25))))
  clear g
  go_wp2_with (refine wpList_store_row rfl 25 (.tmp 3) (.tmp 6) rfl W1.heap.size (anC (ask x [])) rfl rfl _ _ HG1.out.2.blk (by kernel_rfl) rfl (anC_one _) ?_)
  refine (ImplEmpty_any _ x).mono ?_
  rintro e W2 ⟨rfl, g⟩
  have HG2 := hid (And.intro (((HG1.out.1.alloc _).setRow _ HG1.out.1.size _).trans g) (AnAt.ext (a := ask x []) ⟨setRow_heap _ _ _ _ _ _ HG1.out.2.blk⟩ g))
  clear g HG1
  have HG3 := hid (And.intro (And.intro (HG2.out.1.alloc (.cells (anC ⟨(0, 0, false), (0, 0, false), (0, 0, false), (0, 0, false), (0, 0, false), (0, 0, false), (0, 0, false), 0, false, false⟩) 25)) HG2.out.1.size) (And.intro (HG2.out.2.alloc (.cells (anC ⟨(0, 0, false), (0, 0, false), (0, 0, false), (0, 0, false), (0, 0, false), (0, 0, false), (0, 0, false), 0, false, false⟩) 25)) (And.intro (AnAt.mk (alloc_new W2 (.cells (anC ⟨(0, 0, false), (0, 0, false), (0, 0, false), (0, 0, false), (0, 0, false), (0, 0, false), (0, 0, false), 0, false, false⟩) 25))) (block_lt HG2.out.2.blk))))
  clear HG2
  have HW := hid (And.intro (HG3.out.1.1.setRow _ HG3.out.1.2 (anC (ask x []))) (And.intro (AnAt.mk (a := ask x []) ((setRow_other _ _ _ (anC (ask x [])) (Nat.ne_of_lt HG3.out.2.2.2)).trans HG3.out.2.1.blk)) (AnAt.mk (a := ask x []) (setRow_heap _ _ _ (anC (ask x [])) _ _ HG3.out.2.2.1.blk))))
  go_wp2_with (first | refine wpList_store_row rfl 25 (.tmp 4) (.tmp 8) rfl W2.heap.size (anC (ask x [])) rfl rfl _ _ HG3.out.2.2.1.blk (by kernel_rfl) rfl (anC_one _) ?_ | refine load_row rfl 25 (.tmp 4) rfl W2.heap.size rfl _ _ _ HW.out.2.2.blk (by kernel_rfl) (by kernel_rfl) ?_ | refine load_row rfl 25 (.tmp 3) rfl W1.heap.size rfl _ _ _ HW.out.2.1.blk (by kernel_rfl) (by kernel_rfl) ?_)
  refine (eqAnswers_any _ (ask x [])).mono ?_
  rintro e W3 ⟨rfl, g⟩
  have HK := hid (HW.out.1.trans g)
  clear g HW
  go_wp2
  refine bodyPost_ret (results_tmp rfl _ _ _) rfl ⟨rfl, HK.out⟩

end Go.Proofs.Ytoepmplhmkceoaa
