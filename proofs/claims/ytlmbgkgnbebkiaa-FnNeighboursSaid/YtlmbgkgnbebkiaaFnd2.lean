/- spec.Below, spec.Least, spec.Greatest. -/
import Derived.Test.YtlmbgkgnbebkiaaFnd
namespace Go.Proofs.Ytlmbgkgnbebkiaa
open Go.RowKit

theorem glbP_take {ps : List (Int × Int)} {k : Nat} (x : Int) (q : Bool) (hlt : k < ps.length) : glbP x q (ps.take (k + 1)) = if (decide (ps[k].1 < x) || (q && ps[k].1 == x)) then some ps[k] else glbP x q (ps.take k) := by
  unfold glbP
  rw [filter_take hlt]
  split
  · simp
  · simp

theorem FdAt.set {w : World} {b : Nat} {f g : Fd} (h : FdAt w b f) : FdAt (((w.setCell ⟨b, 0, none⟩ (.int .i32 g.1)).setCell ⟨b, 1, none⟩ (.int .i64 g.2.1)).setCell ⟨b, 2, none⟩ (.bool g.2.2)) b g := ⟨set_block (set_block (set_block h.blk 0 _) 1 _) 2 _⟩
theorem FdAt.other {w : World} {b c i : Nat} {v : Value} {f : Fd} (h : FdAt w b f) (hne : b ≠ c) : FdAt (w.setCell ⟨c, i, none⟩ v) b f := ⟨(set_other hne).trans h.blk⟩
theorem FdAt.alloc {w : World} {b : Nat} {f : Fd} (h : FdAt w b f) (o : Obj) : FdAt (w.alloc o) b f := h.ext ((Kept.refl _ _).alloc _)

set_option maxRecDepth 100000 in
theorem Least_any (w : World) (v : Value) (ps : List (Int × Int)) (h : SlP w v ps) :
    Calls Try.prog 24 #[v] w (RetF w (fdOf ps.head?)) := by
  obtain ⟨a, cap, rfl⟩ := h.form
  cases ps with
  | nil =>
    clear h
    go_enter Try.func24, Try.ntmps24
    go_wp2_with fail
    refine (none_any _).mono ?_
    rintro e W1 ⟨rfl, g1⟩
    have hF : FdAt W1 w.heap.size (0, 0, false) := FdAt.ext ⟨alloc_new w _⟩ g1
    have HG := hid ((Kept.trans ((Kept.refl _ _).alloc _) g1))
    have r0 := hF.c0
    have r1 := hF.c1
    have r2 := hF.c2
    have rf := hF.fz
    clear hF g1
    simp only [fv]
    go_wp2
    refine bodyPost_ret (v := .agg #[.int .i32 (-2147483648), .int .i64 0, .bool false]) (by simp [results, Try.results24, go_sem, *]) rfl ⟨rfl, ?_⟩
    repeat (first | exact HG.out | refine Kept.alloc ?_ _ | refine Kept.setNew ?_ _ _ (Nat.le_refl _) _)
  | cons p ps =>
    obtain ⟨b, off, rfl, hb, c0, c1⟩ := h.pair (Kept.refl _ w) 0 (by simp)
    simp only [Nat.zero_mul, Nat.add_zero, List.getElem_cons_zero] at c0 c1
    have hbn : b ≠ w.heap.size := Nat.ne_of_lt hb
    clear h
    have hz : ((((p :: ps).length : Nat) : Int) == 0) = false := by simp; omega
    have hpos : (0 : Int) < (((p :: ps).length : Nat) : Int) := by simp
    have hposN : 0 < (p :: ps).length := by simp
    generalize (p :: ps).length = len at *
    go_enter Try.func24, Try.ntmps24
    go_wp2_with fail
    refine wp_gen (fun W => FdAt W w.heap.size (0, 0, false) ∧ W.cell? ⟨b, off, none⟩ = some (.int .i32 p.1) ∧ W.cell? ⟨b, off + 1, none⟩ = some (.int .i64 p.2) ∧ Kept Non w W) ⟨⟨alloc_new _ _⟩, by rw [World.cell?_alloc_lt _ _ _ hb]; exact c0, by rw [World.cell?_alloc_lt _ _ _ hb]; exact c1, (Kept.refl _ _).alloc _⟩ ?_
    clear c0 c1
    rintro W ⟨hF, c0, c1, hK⟩
    have HK := hid hK
    have r0 := hF.c0
    have r1 := hF.c1
    have r2 := hF.c2
    have rf := hF.fz
    clear hF hK
    refine wp_region_still_tail 9 (by kernel_rfl) (by kernel_rfl) ?_
    simp only [List.take_succ_cons, List.take_zero, List.drop_succ_cons, List.drop_zero]
    iterate 9 still_step
    refine wpStill_nil ?_
    go_wp2
    refine bodyPost_ret (v := .agg #[.int .i32 p.1, .int .i64 p.2, .bool true]) (by simp [results, Try.results24, go_sem, *]) rfl ⟨rfl, ?_⟩
    repeat (first | exact HK.out | refine Kept.alloc ?_ _ | refine Kept.setNew ?_ _ _ (Nat.le_refl _) _ | refine Kept.drew ?_)

theorem Greatest_any (w : World) (v : Value) (ps : List (Int × Int)) (h : SlP w v ps) (hl : ps.length ≤ 8796093022208) :
    Calls Try.prog 25 #[v] w (RetF w (fdOf ps.getLast?)) := by
  obtain ⟨a, cap, rfl⟩ := h.form
  by_cases hn : ps = []
  · subst hn
    clear h
    go_enter Try.func25, Try.ntmps25
    go_wp2_with fail
    refine (none_any _).mono ?_
    rintro e W1 ⟨rfl, g1⟩
    have hF : FdAt W1 w.heap.size (0, 0, false) := FdAt.ext ⟨alloc_new w _⟩ g1
    have HG := hid ((Kept.trans ((Kept.refl _ _).alloc _) g1))
    have r0 := hF.c0
    have r1 := hF.c1
    have r2 := hF.c2
    have rf := hF.fz
    clear hF g1
    simp only [fv]
    go_wp2
    refine bodyPost_ret (v := .agg #[.int .i32 (-2147483648), .int .i64 0, .bool false]) (by simp [results, Try.results25, go_sem, *]) rfl ⟨rfl, ?_⟩
    repeat (first | exact HG.out | refine Kept.alloc ?_ _ | refine Kept.setNew ?_ _ _ (Nat.le_refl _) _)
  · have hpos : 0 < ps.length := List.length_pos_iff.2 hn
    obtain ⟨n, hlen⟩ : ∃ n, ps.length = n + 1 := ⟨ps.length - 1, by omega⟩
    have hnl : n < ps.length := by omega
    obtain ⟨b, off, rfl, hb, c0, c1⟩ := h.pair (Kept.refl _ w) n hnl
    have hlast : ps.getLast? = some ps[n] := by rw [List.getLast?_eq_getElem?, List.getElem?_eq_getElem (by omega)]; simp [hlen]
    rw [hlast]
    generalize ps[n] = p at c0 c1 ⊢
    rw [hlen] at hl ⊢
    have hbn : b ≠ w.heap.size := Nat.ne_of_lt hb
    have hz : (((n + 1 : Nat) : Int) == 0) = false := by simp; omega
    have hn1 : ((n + 1 : Nat) : Int) - 1 = n := by omega
    clear h hlast hn hpos hlen hnl
    go_enter Try.func25, Try.ntmps25
    go_wp2
    refine bodyPost_ret (v := .agg #[.int .i32 p.1, .int .i64 p.2, .bool true]) (by simp [results, Try.results25, go_sem, *]) rfl ⟨rfl, ?_⟩
    repeat (first | exact Kept.refl _ _ | refine Kept.alloc ?_ _ | refine Kept.setNew ?_ _ _ (Nat.le_refl _) _ | refine Kept.drew ?_)

end Go.Proofs.Ytlmbgkgnbebkiaa
