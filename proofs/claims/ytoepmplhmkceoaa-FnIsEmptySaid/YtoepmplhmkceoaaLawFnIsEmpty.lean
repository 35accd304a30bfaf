/- The walk of FnIsEmpty. -/
import Derived.Test.YtoepmplhmkceoaaLoop2
import Derived.Test.YtoepmplhmkceoaaImpl1
namespace Go.Proofs.Ytoepmplhmkceoaa
open Go.RowKit

theorem treeP_empty (ps : List (Int × Int)) : (treeP ps).isEmpty = ps.isEmpty := by
  cases h : ps.reverse with
  | nil => simp at h; subst h; rfl
  | cons p r =>
    have e : ps = r.reverse ++ [p] := by rw [← List.reverse_reverse ps, h]; simp
    clear h
    subst e
    have a1 : (treeP (r.reverse ++ [p])).isEmpty = false := by
      rw [treeP, List.foldl_append, List.foldl_cons, List.foldl_nil, put, List.isEmpty_eq_false_iff]; simp
    have a2 : (r.reverse ++ [p]).isEmpty = false := by rw [List.isEmpty_eq_false_iff]; simp
    rw [a1, a2]
theorem FnIsEmpty_walk (w : World) (v : Value) (ps : List (Int × Int)) (h : SlP w v ps) (hl : ps.length ≤ 8796093021952) (hw : KeysW ps) (_hd : DataR ps) :
    Calls Try.prog 4 #[v] w fun e w' => e = .returned (.bool true) ∧ Kept Non w w' := by
  have HS := hid h
  have HW := hid hw
  clear hw
  obtain ⟨a, cap, rfl⟩ := h.form
  clear h
  have hz : (ps.isEmpty == ((ps.length : Int) == 0)) = true := by
    cases ps with
    | nil => rfl
    | cons p ps => have : ((((p :: ps).length : Nat) : Int) == 0) = false := by simp; omega
                   rw [this]; rfl
  have HZ := hid hz
  clear hz
  cases hk : keyedB ps with
  | false =>
    have HK := hid hk
    clear hk
    go_enter Try.func4, Try.ntmps4
    go_wp2_with fail
    refine (IsEmpty_any _ _ [] ⟨_, _, rfl, fun i x h => by simp at h⟩ (by simp) (fun p hp => by cases hp)).mono ?_
    rintro e w0 ⟨rfl, g0⟩
    have e0 : (treeP []).isEmpty = true := rfl
    rw [e0]
    have HG0 := hid (((Kept.refl _ w).alloc _).trans g0)
    clear g0 e0
    go_wp2_with fail
    refine (keyed_any _ _ ps (HS.out.ext HG0.out) (by omega)).mono ?_
    rintro e w1 ⟨rfl, g1⟩
    rw [HK.out]
    have HG := hid (HG0.out.trans g1)
    clear g1
    go_wp2
    go_ret
    exact ⟨rfl, HG.out⟩
  | true =>
    have HK := hid hk
    clear hk
    go_enter Try.func4, Try.ntmps4
    go_wp2_with fail
    refine (IsEmpty_any _ _ [] ⟨_, _, rfl, fun i x h => by simp at h⟩ (by simp) (fun p hp => by cases hp)).mono ?_
    rintro e w0 ⟨rfl, g0⟩
    have e0 : (treeP []).isEmpty = true := rfl
    rw [e0]
    have HG0 := hid (((Kept.refl _ w).alloc _).trans g0)
    clear g0 e0
    go_wp2_with fail
    refine (keyed_any _ _ ps (HS.out.ext HG0.out) (by omega)).mono ?_
    rintro e w1 ⟨rfl, g1⟩
    rw [HK.out]
    have HG := hid (HG0.out.trans g1)
    clear g1
    go_wp2_with fail
    refine (IsEmpty_any _ _ ps (HS.out.ext HG.out) (by omega) (HW.out.ok HK.out)).mono ?_
    rintro e w2 ⟨rfl, g2⟩
    rw [treeP_empty]
    have HG2 := hid (HG.out.trans g2)
    have hq := HZ.out
    generalize ps.isEmpty = c at hq ⊢
    generalize ps.length = n at hq ⊢
    clear g2 HG HG0 HS
    go_wp2
    go_ret
    exact ⟨rfl, HG2.out⟩

end Go.Proofs.Ytoepmplhmkceoaa
