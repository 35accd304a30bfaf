/- T.Equals, impl.Equals. -/
import Derived.Test.YtlmbgkgnbebkiaaEq2
import Derived.Test.YtlmbgkgnbebkiaaLoop2
namespace Go.Proofs.Ytlmbgkgnbebkiaa
open Go.RowKit

theorem und_T : Try.prog.underlying 70 = some (.pointer 94) := by kernel_rfl
theorem run_eql_T {w : World} {p q : Nat} {cp cq : Array Value} {tp tq : TypeId} (hp : w.heap[p]? = some (.cells cp tp (0, 0))) (hq : w.heap[q]? = some (.cells cq tq (0, 0))) :
    (binOp .eql 70 (.pointer (some ⟨p, 0, none⟩)) (.pointer (some ⟨q, 0, none⟩))).run Try.prog w = .ok (.bool (decide (p = q))) w := by
  obtain ⟨j, hj, hs⟩ : ∃ j, Try.prog.info? 94 = some j ∧ j.size ≠ 0 := by
    have h : (Try.prog.info? 94).map (fun i => decide (i.size = 0)) = some false := by kernel_rfl
    cases hh : Try.prog.info? 94 with
    | none => rw [hh] at h; cases h
    | some j => rw [hh] at h; exact ⟨j, rfl, by simpa using h⟩
  by_cases e : p = q
  · subst e
    have h : ∀ d : Nat, (Op.equalIn (d + 1) 70 (.pointer (some ⟨p, 0, none⟩)) (.pointer (some ⟨p, 0, none⟩))).run Try.prog w = .ok true w := fun d => by
      simp [Op.equalIn, run_underlying und_T, sizeOf, typeInfo, hj, run_sameAddr_same]
    simp only [binOp]
    simp [Op.equal, Op.maxDepth, h 9999]
  · have h : ∀ d : Nat, (Op.equalIn (d + 1) 70 (.pointer (some ⟨p, 0, none⟩)) (.pointer (some ⟨q, 0, none⟩))).run Try.prog w = .ok false w := fun d => by
      simp [Op.equalIn, run_underlying und_T, sizeOf, typeInfo, hj, hs, run_sameAddr_other w (a := ⟨p, 0, none⟩) (b := ⟨q, 0, none⟩) (by intro he; cases he; exact e rfl) hp hq]
    simp only [binOp]
    simp [Op.equal, Op.maxDepth, h 9999, e]

theorem Head.same {w : World} {b : Nat} {xs ys : List (Int × Int)} (h : Head w b xs) (h' : Head w b ys) : xs = ys := by
  obtain ⟨T, h1, h2⟩ := h.ex
  obtain ⟨T', h3, h4⟩ := h'.ex
  rw [h1] at h3
  simp only [tObj, Option.some.injEq, Obj.cells.injEq, List.toArray_eq_iff, List.cons.injEq] at h3
  simp at h3
  exact GoodT.same h2 h4 h3.1

set_option maxRecDepth 100000 in
theorem TEquals_any (w : World) (b c : Nat) (xs ys : List (Int × Int)) (h : Head w b xs) (h' : Head w c ys) :
    Calls Try.prog 47 #[.pointer (some ⟨b, 0, none⟩), .pointer (some ⟨c, 0, none⟩)] w (EqPost w (decide (xs = ys))) := by
  obtain ⟨A, a1, a2⟩ := h.ex
  obtain ⟨B, b1, b2⟩ := h'.ex
  have hq := run_eql_T a1 b1
  by_cases e : b = c
  · rw [decide_eq_true e] at hq
    subst e
    rw [decide_eq_true (h.same h')]
    clear h h' a1 a2 b1 b2
    go_enter Try.func47, Try.ntmps47
    go_wp2
    go_ret
    exact ⟨rfl, Kept.refl _ _⟩
  rw [decide_eq_false e] at hq
  have h1 := hid0 (TSize_any w b 0 xs h.at)
  have h2 := hid0 (TSize_any w c 0 ys h'.at)
  have HE := hid0 (fun W (hK : Kept Non w W) => equals_any W A B xs ys (a2.ext hK) (b2.ext hK))
  have c0 : w.cell? ⟨b, 0, none⟩ = some A.ptr := by unfold tObj at a1; rw [cell_of a1]; rfl
  have d0 : w.cell? ⟨c, 0, none⟩ = some B.ptr := by unfold tObj at b1; rw [cell_of b1]; rfl
  obtain ⟨ua, fa⟩ := ptr_form A
  obtain ⟨ub, fb⟩ := ptr_form B
  rw [fa] at c0 HE
  rw [fb] at d0 HE
  obtain ⟨R, hR⟩ : ∃ R, R = decide (xs = ys) := ⟨_, rfl⟩
  rw [← hR] at HE ⊢
  have HR := hid0 hR
  clear h h' a1 a2 b1 b2 e hR
  by_cases hl : xs.length = ys.length
  · have hlb : ((xs.length : Int) != (ys.length : Int)) = false := by simp [hl]
    clear hl
    go_enter Try.func47, Try.ntmps47
    go_wp2_with fail
    refine h1.out.mono ?_
    rintro e w' ⟨rfl, hw⟩
    rw [← hw]
    clear hw
    go_wp2_with fail
    refine h2.out.mono ?_
    rintro e w' ⟨rfl, hw⟩
    rw [← hw]
    clear hw
    go_wp2_with fail
    refine wp_region_still_tail 8 (by kernel_rfl) (by kernel_rfl) ?_
    simp only [List.take_succ_cons, List.take_zero, List.drop_succ_cons, List.drop_zero]
    iterate 8 still_step
    refine wpStill_nil ?_
    go_wp2_with fail
    refine (HE.out _ (Kept.refl _ _).drew).mono ?_
    rintro e w1 ⟨rfl, g1⟩
    have HG := hid0 (((Kept.refl _ w).drew).trans g1)
    clear g1
    go_wp2
    go_ret
    exact ⟨rfl, HG.out⟩
  · have hlb : ((xs.length : Int) != (ys.length : Int)) = true := by simp; omega
    have hf : R = false := by rw [HR.out, decide_eq_false_iff_not]; intro e; exact hl (by rw [e])
    rw [hf]
    clear hl hf HR HE
    go_enter Try.func47, Try.ntmps47
    go_wp2_with fail
    refine h1.out.mono ?_
    rintro e w' ⟨rfl, hw⟩
    rw [← hw]
    clear hw
    go_wp2_with fail
    refine h2.out.mono ?_
    rintro e w' ⟨rfl, hw⟩
    rw [← hw]
    clear hw
    go_wp2
    go_ret
    exact ⟨rfl, Kept.refl _ _⟩

theorem Equals_any (w : World) (v u : Value) (ps qs : List (Int × Int)) (h : SlP w v ps) (h' : SlP w u qs) (hl : ps.length ≤ 8796093022208) (hl' : qs.length ≤ 8796093022208) (hok : KeysOk ps) (hok' : KeysOk qs) :
    Calls Try.prog 16 #[v, u] w (EqPost w (decide (treeP ps = treeP qs))) := by
  have HT := hid0 (tree_any w v ps h hl hok)
  have HU := hid0 (fun W (hK : Kept Non w W) => tree_any W u qs (h'.ext hK) hl' hok')
  clear h hok h' hok'
  go_enter Try.func16, Try.ntmps16
  go_wp2_with fail
  refine HT.out.mono ?_
  rintro e w1 ⟨b, rfl, _, g1, g2⟩
  have HG := hid0 (And.intro g1 g2)
  clear g1 g2
  go_wp2_with fail
  refine (HU.out _ HG.out.2).mono ?_
  rintro e w2 ⟨c, rfl, _, g1, g2⟩
  have HG2 := hid0 (And.intro (HG.out.1.ext g2) (And.intro g1 (HG.out.2.trans g2)))
  clear g1 g2
  go_wp2_with fail
  refine (TEquals_any _ b c _ _ HG2.out.1 HG2.out.2.1).mono ?_
  rintro e w3 ⟨rfl, g1⟩
  have HG3 := hid0 (HG2.out.2.2.trans g1)
  clear g1
  go_wp2
  go_ret
  exact ⟨rfl, HG3.out⟩

end Go.Proofs.Ytlmbgkgnbebkiaa
