/- Structs compared; impl.Find, Min, Max, Glb, GlbEq, Lub, LubEq. -/
import Derived.Test.YtehegllgaiehfaaFnd2
namespace Go.Proofs.Ytehegllgaiehfaa
open Go.RowKit

set_option maxRecDepth 100000 in
theorem eql_fd0 (a b d e : Int) (p q : Bool) (w : World) : (binOp .eql 31 (.agg #[.int .i32 a, .int .i64 b, .bool p]) (.agg #[.int .i32 d, .int .i64 e, .bool q])).run Try.prog w = .ok (.bool (a == d && (b == e && p == q))) w := by
  simp [go_sem]
  by_cases h1 : a = d
  · by_cases h2 : b = e
    · by_cases h3 : p = q <;> simp [h1, h2, h3]
    · simp [h1, h2]
  · simp [h1]
set_option maxRecDepth 100000 in
theorem neq_fd0 (a b d e : Int) (p q : Bool) (w : World) : (binOp .neq 31 (.agg #[.int .i32 a, .int .i64 b, .bool p]) (.agg #[.int .i32 d, .int .i64 e, .bool q])).run Try.prog w = .ok (.bool (!(a == d && (b == e && p == q)))) w := by
  simp [go_sem]
  by_cases h1 : a = d
  · by_cases h2 : b = e
    · by_cases h3 : p = q <;> simp [h1, h2, h3]
    · simp [h1, h2]
  · simp [h1]
set_option maxRecDepth 100000 in
theorem neq_p0 (a b d e : Int) (w : World) : (binOp .neq 27 (.agg #[.int .i32 a, .int .i64 b]) (.agg #[.int .i32 d, .int .i64 e])).run Try.prog w = .ok (.bool (!(a == d && b == e))) w := by
  simp [go_sem]
  by_cases h1 : a = d
  · by_cases h2 : b = e <;> simp [h1, h2]
  · simp [h1]
theorem fd_beq (f g : Fd) : (f.1 == g.1 && (f.2.1 == g.2.1 && f.2.2 == g.2.2)) = (f == g) := rfl
theorem eql_fd (f g : Fd) (w : World) : (binOp .eql 31 (fv f) (fv g)).run Try.prog w = .ok (.bool (f == g)) w := eql_fd0 _ _ _ _ _ _ w
theorem neq_fd (f g : Fd) (w : World) : (binOp .neq 31 (fv f) (fv g)).run Try.prog w = .ok (.bool (f != g)) w := neq_fd0 _ _ _ _ _ _ w
theorem found_kd (w : World) (r : Option (Int × Int)) : ∃ k d, kdv r = .tuple #[.int .i32 k, d] ∧ Calls Try.prog 32 #[.int .i32 k, d] w (RetF w (fdOf r)) := by
  cases r with
  | none => exact ⟨_, _, rfl, found_nil w _⟩
  | some a => exact ⟨_, _, rfl, found_some w _ _⟩


theorem Min_any (w : World) (v : Value) (ps : List (Int × Int)) (h : SlP w v ps) (hl : ps.length ≤ 8796093022208) (hok : KeysOk ps) :
    Calls Try.prog 13 #[v] w (RetF w (fdOf ((treeP ps).head?))) := by
  have HT := hid (fun W (hK : Kept Non w W) => tree_any W v ps (h.ext hK) hl hok)
  obtain ⟨r, hr⟩ : ∃ r, r = (treeP ps).head? := ⟨_, rfl⟩
  rw [← hr]
  have HR := hid hr
  obtain ⟨f, hf⟩ : ∃ f, f = fdOf r := ⟨_, rfl⟩
  rw [← hf]
  obtain ⟨f0, f1, f2⟩ := f
  have HF := hid hf
  clear h hok hr hf
  go_enter Try.func13, Try.ntmps13
  go_wp2_with fail
  refine (HT.out _ ((Kept.refl _ _).alloc _)).mono ?_
  rintro e w1 ⟨b, rfl, _, g1, g2⟩
  have hF : FdAt w1 w.heap.size (0, 0, false) := FdAt.ext ⟨alloc_new w _⟩ g2
  have HG := hid (And.intro g1 (And.intro (((Kept.refl _ w).alloc _).trans g2) hF))
  clear g1 g2 hF
  go_wp2_with fail
  refine (TMin_any _ b 0 _ HG.out.1.at).mono ?_
  rintro e w' ⟨rfl, rfl⟩
  rw [← HR.out]
  obtain ⟨k, d, hkd, hc⟩ := found_kd w1 r
  rw [hkd]
  have HC := hid hc
  clear hc hkd
  go_wp2_with fail
  refine HC.out.mono ?_
  rintro e w2 ⟨rfl, g3⟩
  have hF := HG.out.2.2.ext g3
  have HG2 := hid (HG.out.2.1.trans g3)
  have r0 := hF.c0
  have r1 := hF.c1
  have r2 := hF.c2
  have rf := hF.fz
  rw [← HF.out]
  simp only [fv]
  clear hF g3 HG
  go_wp2
  refine bodyPost_ret (v := .agg #[.int .i32 f0, .int .i64 f1, .bool f2]) (by simp [results, Try.results13, go_sem, *]) rfl ⟨rfl, ?_⟩
  repeat (first | exact HG2.out | refine Kept.alloc ?_ _ | refine Kept.setNew ?_ _ _ (Nat.le_refl _) _)

theorem Max_any (w : World) (v : Value) (ps : List (Int × Int)) (h : SlP w v ps) (hl : ps.length ≤ 8796093022208) (hok : KeysOk ps) :
    Calls Try.prog 11 #[v] w (RetF w (fdOf ((treeP ps).getLast?))) := by
  have HT := hid (fun W (hK : Kept Non w W) => tree_any W v ps (h.ext hK) hl hok)
  obtain ⟨r, hr⟩ : ∃ r, r = (treeP ps).getLast? := ⟨_, rfl⟩
  rw [← hr]
  have HR := hid hr
  obtain ⟨f, hf⟩ : ∃ f, f = fdOf r := ⟨_, rfl⟩
  rw [← hf]
  obtain ⟨f0, f1, f2⟩ := f
  have HF := hid hf
  clear h hok hr hf
  go_enter Try.func11, Try.ntmps11
  go_wp2_with fail
  refine (HT.out _ ((Kept.refl _ _).alloc _)).mono ?_
  rintro e w1 ⟨b, rfl, _, g1, g2⟩
  have hF : FdAt w1 w.heap.size (0, 0, false) := FdAt.ext ⟨alloc_new w _⟩ g2
  have HG := hid (And.intro g1 (And.intro (((Kept.refl _ w).alloc _).trans g2) hF))
  clear g1 g2 hF
  go_wp2_with fail
  refine (TMax_any _ b 0 _ HG.out.1.at).mono ?_
  rintro e w' ⟨rfl, rfl⟩
  rw [← HR.out]
  obtain ⟨k, d, hkd, hc⟩ := found_kd w1 r
  rw [hkd]
  have HC := hid hc
  clear hc hkd
  go_wp2_with fail
  refine HC.out.mono ?_
  rintro e w2 ⟨rfl, g3⟩
  have hF := HG.out.2.2.ext g3
  have HG2 := hid (HG.out.2.1.trans g3)
  have r0 := hF.c0
  have r1 := hF.c1
  have r2 := hF.c2
  have rf := hF.fz
  rw [← HF.out]
  simp only [fv]
  clear hF g3 HG
  go_wp2
  refine bodyPost_ret (v := .agg #[.int .i32 f0, .int .i64 f1, .bool f2]) (by simp [results, Try.results11, go_sem, *]) rfl ⟨rfl, ?_⟩
  repeat (first | exact HG2.out | refine Kept.alloc ?_ _ | refine Kept.setNew ?_ _ _ (Nat.le_refl _) _)

theorem Glb_any (w : World) (v : Value) (ps : List (Int × Int)) (x : Int) (h : SlP w v ps) (hl : ps.length ≤ 8796093022208) (hok : KeysOk ps) :
    Calls Try.prog 12 #[v, .int .i32 x] w (RetF w (fdOf (glbP x false (treeP ps)))) := by
  have HT := hid (fun W (hK : Kept Non w W) => tree_any W v ps (h.ext hK) hl hok)
  obtain ⟨r, hr⟩ : ∃ r, r = glbP x false (treeP ps) := ⟨_, rfl⟩
  rw [← hr]
  have HR := hid hr
  obtain ⟨f, hf⟩ : ∃ f, f = fdOf r := ⟨_, rfl⟩
  rw [← hf]
  obtain ⟨f0, f1, f2⟩ := f
  have HF := hid hf
  clear h hok hr hf
  go_enter Try.func12, Try.ntmps12
  go_wp2_with fail
  refine (HT.out _ ((Kept.refl _ _).alloc _)).mono ?_
  rintro e w1 ⟨b, rfl, _, g1, g2⟩
  have hF : FdAt w1 w.heap.size (0, 0, false) := FdAt.ext ⟨alloc_new w _⟩ g2
  have HG := hid (And.intro g1 (And.intro (((Kept.refl _ w).alloc _).trans g2) hF))
  clear g1 g2 hF
  go_wp2_with fail
  refine (TGlb_any _ b 0 _ x HG.out.1.at).mono ?_
  rintro e w' ⟨rfl, rfl⟩
  rw [← HR.out]
  obtain ⟨k, d, hkd, hc⟩ := found_kd w1 r
  rw [hkd]
  have HC := hid hc
  clear hc hkd
  go_wp2_with fail
  refine HC.out.mono ?_
  rintro e w2 ⟨rfl, g3⟩
  have hF := HG.out.2.2.ext g3
  have HG2 := hid (HG.out.2.1.trans g3)
  have r0 := hF.c0
  have r1 := hF.c1
  have r2 := hF.c2
  have rf := hF.fz
  rw [← HF.out]
  simp only [fv]
  clear hF g3 HG
  go_wp2
  refine bodyPost_ret (v := .agg #[.int .i32 f0, .int .i64 f1, .bool f2]) (by simp [results, Try.results12, go_sem, *]) rfl ⟨rfl, ?_⟩
  repeat (first | exact HG2.out | refine Kept.alloc ?_ _ | refine Kept.setNew ?_ _ _ (Nat.le_refl _) _)



theorem LubEq_any (w : World) (v : Value) (ps : List (Int × Int)) (x : Int) (h : SlP w v ps) (hl : ps.length ≤ 8796093022208) (hok : KeysOk ps) :
    Calls Try.prog 14 #[v, .int .i32 x] w (RetF w (fdOf (lubP x true (treeP ps)))) := by
  have HT := hid (fun W (hK : Kept Non w W) => tree_any W v ps (h.ext hK) hl hok)
  obtain ⟨r, hr⟩ : ∃ r, r = lubP x true (treeP ps) := ⟨_, rfl⟩
  rw [← hr]
  have HR := hid hr
  obtain ⟨f, hf⟩ : ∃ f, f = fdOf r := ⟨_, rfl⟩
  rw [← hf]
  obtain ⟨f0, f1, f2⟩ := f
  have HF := hid hf
  clear h hok hr hf
  go_enter Try.func14, Try.ntmps14
  go_wp2_with fail
  refine (HT.out _ ((Kept.refl _ _).alloc _)).mono ?_
  rintro e w1 ⟨b, rfl, _, g1, g2⟩
  have hF : FdAt w1 w.heap.size (0, 0, false) := FdAt.ext ⟨alloc_new w _⟩ g2
  have HG := hid (And.intro g1 (And.intro (((Kept.refl _ w).alloc _).trans g2) hF))
  clear g1 g2 hF
  go_wp2_with fail
  refine (TLubEq_any _ b 0 _ x HG.out.1.at).mono ?_
  rintro e w' ⟨rfl, rfl⟩
  rw [← HR.out]
  obtain ⟨k, d, hkd, hc⟩ := found_kd w1 r
  rw [hkd]
  have HC := hid hc
  clear hc hkd
  go_wp2_with fail
  refine HC.out.mono ?_
  rintro e w2 ⟨rfl, g3⟩
  have hF := HG.out.2.2.ext g3
  have HG2 := hid (HG.out.2.1.trans g3)
  have r0 := hF.c0
  have r1 := hF.c1
  have r2 := hF.c2
  have rf := hF.fz
  rw [← HF.out]
  simp only [fv]
  clear hF g3 HG
  go_wp2
  refine bodyPost_ret (v := .agg #[.int .i32 f0, .int .i64 f1, .bool f2]) (by simp [results, Try.results14, go_sem, *]) rfl ⟨rfl, ?_⟩
  repeat (first | exact HG2.out | refine Kept.alloc ?_ _ | refine Kept.setNew ?_ _ _ (Nat.le_refl _) _)

end Go.Proofs.Ytehegllgaiehfaa
