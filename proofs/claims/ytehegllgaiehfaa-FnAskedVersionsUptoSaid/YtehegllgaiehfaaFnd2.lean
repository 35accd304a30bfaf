/- spec.Below, spec.Least, spec.Greatest. -/
import Derived.Test.YtehegllgaiehfaaFnd
namespace Go.Proofs.Ytehegllgaiehfaa
open Go.RowKit

theorem glbP_take {ps : List (Int × Int)} {k : Nat} (x : Int) (q : Bool) (hlt : k < ps.length) : glbP x q (ps.take (k + 1)) = if (decide (ps[k].1 < x) || (q && ps[k].1 == x)) then some ps[k] else glbP x q (ps.take k) := by
  unfold glbP
  rw [filter_take hlt]
  split
  · simp
  · simp

theorem FdAt.set {w : World} {b : Nat} {f g : Fd} (h : FdAt w b f) : FdAt (((w.setCell ⟨b, 0, none⟩ (.int .i32 g.1)).setCell ⟨b, 1, none⟩ (.int .i64 g.2.1)).setCell ⟨b, 2, none⟩ (.bool g.2.2)) b g := ⟨set_block (set_block (set_block h.blk 0 _) 1 _) 2 _⟩
theorem FdAt.other {w : World} {b c i : Nat} {v : Value} {f : Fd} (h : FdAt w b f) (hne : b ≠ c) : FdAt (w.setCell ⟨c, i, none⟩ v) b f := ⟨(set_other hne).trans h.blk⟩
theorem FdAt.alloc {w : World} {b : Nat} {f : Fd} (h : FdAt w b f) (o : Obj) : FdAt (w.alloc o) b f := h.ext ((Kept.refl _ _).alloc _)

set_option maxRecDepth 100000 in
theorem Below_any (w : World) (v : Value) (ps : List (Int × Int)) (x : Int) (q : Bool) (h : SlP w v ps) (hl : ps.length ≤ 8796093022208) :
    Calls Try.prog 49 #[v, .int .i32 x, .bool q] w (RetF w (fdOf (glbP x q ps))) := by
  obtain ⟨a, cap, rfl⟩ := h.form
  have HS := hid h
  clear h
  go_enter Try.func49, Try.ntmps49
  go_wp2_with fail
  refine (none_any _).mono ?_
  rintro e W1 ⟨rfl, g1⟩
  have hN1 : FdAt W1 w.heap.size (0, 0, false) := FdAt.ext ⟨alloc_new w _⟩ g1
  have HG := hid (And.intro ((Kept.trans ((Kept.refl _ _).alloc _) g1)) hN1)
  clear g1 hN1
  simp only [fv]
  go_wp2
  go_loopg [13] (ps.length) (fun n i wr => ∃ k : Nat, k + n = ps.length ∧ i = .int .i64 k ∧ Kept Non w wr ∧ FdAt wr w.heap.size (0, 0, false) ∧ FdAt wr W1.heap.size (fdOf (glbP x q (ps.take k))))
  case atStart => exact ⟨0, by simp, rfl, HG.out.1.alloc _, HG.out.2.alloc _, ⟨alloc_new _ _⟩⟩
  case round =>
    obtain ⟨k, hk, rfl, hK, hF, hM⟩ := hrel
    have HK := hid (And.intro hK (And.intro hF hM))
    have r0 := hF.c0
    have r1 := hF.c1
    have r2 := hF.c2
    have rf := hF.fz
    have m0 := hM.c0
    have m1 := hM.c1
    have m2 := hM.c2
    have mf := hM.fz
    have hN : w.heap.size < wr.heap.size := block_lt hF.blk
    have hN' : w.heap.size ≠ wr.heap.size := Nat.ne_of_lt hN
    have hMlt : W1.heap.size < wr.heap.size := block_lt hM.blk
    have hM' : W1.heap.size ≠ wr.heap.size := Nat.ne_of_lt hMlt
    have hNM : w.heap.size < W1.heap.size := block_lt HG.out.2.blk
    have hNM' : w.heap.size ≠ W1.heap.size := Nat.ne_of_lt hNM
    have hle : w.heap.size ≤ W1.heap.size := Nat.le_of_lt hNM
    clear hM hF
    by_cases hlt : k < ps.length
    · obtain ⟨b, off, rfl, _, c0, c1⟩ := HS.out.pair hK k hlt
      clear hK
      have ways : (ps[k].1 < x) ∨ (¬ ps[k].1 < x ∧ q = true ∧ (ps[k].1 == x) = true) ∨ (¬ ps[k].1 < x ∧ q = true ∧ (ps[k].1 == x) = false) ∨ (¬ ps[k].1 < x ∧ q = false) := by
        by_cases h1 : ps[k].1 < x
        · exact .inl h1
        · cases q
          · exact .inr (.inr (.inr ⟨h1, rfl⟩))
          · cases h2 : (ps[k].1 == x)
            · exact .inr (.inr (.inl ⟨h1, rfl, rfl⟩))
            · exact .inr (.inl ⟨h1, rfl, rfl⟩)
      have yes : (decide (ps[k].1 < x) || (q && ps[k].1 == x)) = true → fdOf (glbP x q (ps.take (k + 1))) = (ps[k].1, ps[k].2, true) := fun hp => by
        rw [glbP_take x q hlt, if_pos hp]; rfl
      have no : (decide (ps[k].1 < x) || (q && ps[k].1 == x)) = false → glbP x q (ps.take (k + 1)) = glbP x q (ps.take k) := fun hp => by
        rw [glbP_take x q hlt, if_neg (by rw [hp]; simp)]
      have HY := hid (And.intro yes no)
      clear yes no
      rcases ways with hx | ⟨hx, rfl, hx2⟩ | ⟨hx, rfl, hx2⟩ | ⟨hx, rfl⟩
      · have HX := hid (HY.out.1 (by simp [hx]))
        clear HY r0 r1 r2 rf
        go_wp2
        go_roundg (gk - 1)
        case measure => omega
        case rel =>
          refine ⟨k + 1, by omega, by go_num, ?_, ?_, ?_⟩
          · repeat (first | exact HK.out.1 | refine Kept.alloc ?_ _ | refine Kept.setNew ?_ _ _ hle _)
          · repeat (first | exact HK.out.2.1 | refine FdAt.alloc ?_ _ | refine FdAt.other ?_ hNM')
          · rw [HX.out]
            exact FdAt.alloc (FdAt.set (g := (ps[k].1, ps[k].2, true)) HK.out.2.2) _
      · have HX := hid (HY.out.1 (by rw [hx2]; simp))
        clear HY r0 r1 r2 rf
        go_wp2
        go_roundg (gk - 1)
        case measure => omega
        case rel =>
          refine ⟨k + 1, by omega, by go_num, ?_, ?_, ?_⟩
          · repeat (first | exact HK.out.1 | refine Kept.alloc ?_ _ | refine Kept.setNew ?_ _ _ hle _)
          · repeat (first | exact HK.out.2.1 | refine FdAt.alloc ?_ _ | refine FdAt.other ?_ hNM')
          · rw [HX.out]
            exact FdAt.alloc (FdAt.set (g := (ps[k].1, ps[k].2, true)) HK.out.2.2) _
      · have HX := hid (HY.out.2 (by rw [hx2]; simp; omega))
        clear HY r0 r1 r2 rf
        go_wp2
        go_roundg (gk - 1)
        case measure => omega
        case rel => exact ⟨k + 1, by omega, by go_num, HK.out.1.alloc _, HK.out.2.1.alloc _, by rw [HX.out]; exact HK.out.2.2.alloc _⟩
      · have HX := hid (HY.out.2 (by simp; omega))
        clear HY r0 r1 r2 rf
        go_wp2
        go_roundg (gk - 1)
        case measure => omega
        case rel => exact ⟨k + 1, by omega, by go_num, HK.out.1.alloc _, HK.out.2.1.alloc _, by rw [HX.out]; exact HK.out.2.2.alloc _⟩
    · have HE : Hid (ps.take k = ps) := List.take_of_length_le (by omega)
      rw [HE.out] at m0 m1 m2
      obtain ⟨f, hf⟩ : ∃ f, f = fdOf (glbP x q ps) := ⟨_, rfl⟩
      rw [← hf] at m0 m1 m2
      have HF := hid hf
      clear hf
      clear hK
      go_wp2
      refine bodyPost_ret (v := .agg #[.int .i32 f.1, .int .i64 f.2.1, .bool f.2.2]) (by simp [results, Try.results49, go_sem, *]) rfl ⟨by rw [← HF.out]; rfl, ?_⟩
      repeat (first | exact HK.out.1 | refine Kept.alloc ?_ _ | refine Kept.setNew ?_ _ _ (Nat.le_refl _) _)

set_option maxRecDepth 100000 in
theorem Least_any (w : World) (v : Value) (ps : List (Int × Int)) (h : SlP w v ps) :
    Calls Try.prog 51 #[v] w (RetF w (fdOf ps.head?)) := by
  obtain ⟨a, cap, rfl⟩ := h.form
  cases ps with
  | nil =>
    clear h
    go_enter Try.func51, Try.ntmps51
    go_wp2_with fail
    refine (none_any _).mono ?_
    rintro e W1 ⟨rfl, g1⟩
    have hF : FdAt W1 w.heap.size (0, 0, false) := FdAt.ext ⟨alloc_new w _⟩ g1
    have HG := hid ((Kept.trans ((Kept.refl _ _).alloc _) g1))
    have r0 := hF.c0
    have r1 := hF.c1
    have r2 := hF.c2
    have rf := hF.fz
    clear hF g1
    simp only [fv]
    go_wp2
    refine bodyPost_ret (v := .agg #[.int .i32 (-2147483648), .int .i64 0, .bool false]) (by simp [results, Try.results51, go_sem, *]) rfl ⟨rfl, ?_⟩
    repeat (first | exact HG.out | refine Kept.alloc ?_ _ | refine Kept.setNew ?_ _ _ (Nat.le_refl _) _)
  | cons p ps =>
    obtain ⟨b, off, rfl, hb, c0, c1⟩ := h.pair (Kept.refl _ w) 0 (by simp)
    simp only [Nat.zero_mul, Nat.add_zero, List.getElem_cons_zero] at c0 c1
    have hbn : b ≠ w.heap.size := Nat.ne_of_lt hb
    clear h
    have hz : ((((p :: ps).length : Nat) : Int) == 0) = false := by simp; omega
    have hpos : (0 : Int) < (((p :: ps).length : Nat) : Int) := by simp
    have hposN : 0 < (p :: ps).length := by simp
    generalize (p :: ps).length = len at *
    go_enter Try.func51, Try.ntmps51
    go_wp2_with fail
    refine wp_gen (fun W => FdAt W w.heap.size (0, 0, false) ∧ W.cell? ⟨b, off, none⟩ = some (.int .i32 p.1) ∧ W.cell? ⟨b, off + 1, none⟩ = some (.int .i64 p.2) ∧ Kept Non w W) ⟨⟨alloc_new _ _⟩, by rw [World.cell?_alloc_lt _ _ _ hb]; exact c0, by rw [World.cell?_alloc_lt _ _ _ hb]; exact c1, (Kept.refl _ _).alloc _⟩ ?_
    clear c0 c1
    rintro W ⟨hF, c0, c1, hK⟩
    have HK := hid hK
    have r0 := hF.c0
    have r1 := hF.c1
    have r2 := hF.c2
    have rf := hF.fz
    clear hF hK
    refine wp_region_still_tail 9 (by kernel_rfl) (by kernel_rfl) ?_
    simp only [List.take_succ_cons, List.take_zero, List.drop_succ_cons, List.drop_zero]
    iterate 9 still_step
    refine wpStill_nil ?_
    go_wp2
    refine bodyPost_ret (v := .agg #[.int .i32 p.1, .int .i64 p.2, .bool true]) (by simp [results, Try.results51, go_sem, *]) rfl ⟨rfl, ?_⟩
    repeat (first | exact HK.out | refine Kept.alloc ?_ _ | refine Kept.setNew ?_ _ _ (Nat.le_refl _) _ | refine Kept.drew ?_)

theorem Greatest_any (w : World) (v : Value) (ps : List (Int × Int)) (h : SlP w v ps) (hl : ps.length ≤ 8796093022208) :
    Calls Try.prog 52 #[v] w (RetF w (fdOf ps.getLast?)) := by
  obtain ⟨a, cap, rfl⟩ := h.form
  by_cases hn : ps = []
  · subst hn
    clear h
    go_enter Try.func52, Try.ntmps52
    go_wp2_with fail
    refine (none_any _).mono ?_
    rintro e W1 ⟨rfl, g1⟩
    have hF : FdAt W1 w.heap.size (0, 0, false) := FdAt.ext ⟨alloc_new w _⟩ g1
    have HG := hid ((Kept.trans ((Kept.refl _ _).alloc _) g1))
    have r0 := hF.c0
    have r1 := hF.c1
    have r2 := hF.c2
    have rf := hF.fz
    clear hF g1
    simp only [fv]
    go_wp2
    refine bodyPost_ret (v := .agg #[.int .i32 (-2147483648), .int .i64 0, .bool false]) (by simp [results, Try.results52, go_sem, *]) rfl ⟨rfl, ?_⟩
    repeat (first | exact HG.out | refine Kept.alloc ?_ _ | refine Kept.setNew ?_ _ _ (Nat.le_refl _) _)
  · have hpos : 0 < ps.length := List.length_pos_iff.2 hn
    obtain ⟨n, hlen⟩ : ∃ n, ps.length = n + 1 := ⟨ps.length - 1, by omega⟩
    have hnl : n < ps.length := by omega
    obtain ⟨b, off, rfl, hb, c0, c1⟩ := h.pair (Kept.refl _ w) n hnl
    have hlast : ps.getLast? = some ps[n] := by rw [List.getLast?_eq_getElem?, List.getElem?_eq_getElem (by omega)]; simp [hlen]
    rw [hlast]
    generalize ps[n] = p at c0 c1 ⊢
    rw [hlen] at hl ⊢
    have hbn : b ≠ w.heap.size := Nat.ne_of_lt hb
    have hz : (((n + 1 : Nat) : Int) == 0) = false := by simp; omega
    have hn1 : ((n + 1 : Nat) : Int) - 1 = n := by omega
    clear h hlast hn hpos hlen hnl
    go_enter Try.func52, Try.ntmps52
    go_wp2
    refine bodyPost_ret (v := .agg #[.int .i32 p.1, .int .i64 p.2, .bool true]) (by simp [results, Try.results52, go_sem, *]) rfl ⟨rfl, ?_⟩
    repeat (first | exact Kept.refl _ _ | refine Kept.alloc ?_ _ | refine Kept.setNew ?_ _ _ (Nat.le_refl _) _ | refine Kept.drew ?_)

end Go.Proofs.Ytehegllgaiehfaa
