/- spec.Same and impl.Visit. -/
import Derived.Test.YtehegllgaiehfaaImpl2
import Derived.Test.YtehegllgaiehfaaVisit
namespace Go.Proofs.Ytehegllgaiehfaa
open Go.RowKit

theorem take_succ_eq {α : Type} {xs ys : List α} {k : Nat} (h1 : k < xs.length) (h2 : k < ys.length) (h : xs.take k = ys.take k) (e : xs[k] = ys[k]) : xs.take (k + 1) = ys.take (k + 1) := by
  rw [List.take_succ_eq_append_getElem h1, List.take_succ_eq_append_getElem h2, h, e]

set_option maxRecDepth 100000 in
theorem Same_any (w : World) (v u : Value) (ps qs : List (Int × Int)) (h : SlP w v ps) (h' : SlP w u qs) (hl : ps.length ≤ 8796093022208) :
    Calls Try.prog 15 #[v, u] w fun e w' => e = .returned (.bool (decide (ps = qs))) ∧ Kept Non w w' := by
  obtain ⟨a, cap, rfl⟩ := h.form
  obtain ⟨a', cap', rfl⟩ := h'.form
  have HS := hid (And.intro h h')
  clear h h'
  by_cases hlen : ps.length = qs.length
  · have hlb : ((ps.length : Int) != (qs.length : Int)) = false := by simp [hlen]
    go_enter Try.func15, Try.ntmps15
    have HL := hid hlen
    have hle : ps.length ≤ qs.length ∧ qs.length ≤ ps.length := by omega
    clear hlen
    go_wp2
    go_loopg [14] (ps.length) (fun n i wr => ∃ k : Nat, k + n = ps.length ∧ i = .int .i64 k ∧ Kept Non w wr ∧ ps.take k = qs.take k)
    case atStart => exact ⟨0, by simp, rfl, Kept.refl _ _, by simp⟩
    case round =>
      obtain ⟨k, hk, rfl, hK, hall⟩ := hrel
      have HK := hid (And.intro hK hall)
      clear hall
      by_cases hlt : k < ps.length
      · have hlt' : k < qs.length := by omega
        obtain ⟨b, off, rfl, _, c0, c1⟩ := HS.out.1.pair hK k hlt
        obtain ⟨b', off', rfl, hb', d0, d1⟩ := HS.out.2.pair hK k hlt'
        have hbr : b' ≠ wr.heap.size := Nat.ne_of_lt (Nat.lt_of_lt_of_le hb' hK.size)
        clear hK
        have hi0 : (0 : Int) ≤ (k : Int) := Int.natCast_nonneg _
        have hi1 : (k : Int) < (qs.length : Int) := by omega
        go_wp2_with fail
        refine wp_gen (fun W => W.cell? ⟨wr.heap.size, 0, none⟩ = some (.int .i32 ps[k].1) ∧ W.cell? ⟨wr.heap.size, 1, none⟩ = some (.int .i64 ps[k].2) ∧ W.cell? ⟨b', off' + k * 2, none⟩ = some (.int .i32 qs[k].1) ∧ W.cell? ⟨b', off' + k * 2 + 1, none⟩ = some (.int .i64 qs[k].2) ∧ Kept Non w W) ⟨?_, ?_, ?_, ?_, HK.out.1.alloc _⟩ ?_
        · rw [cell_of (alloc_new wr _)]; rfl
        · rw [cell_of (alloc_new wr _)]; rfl
        · rw [World.cell?_alloc_old _ _ _ hbr]; exact d0
        · rw [World.cell?_alloc_old _ _ _ hbr]; exact d1
        rintro W ⟨e0, e1, e2, e3, hKW⟩
        have HW := hid hKW
        clear hKW c0 c1 d0 d1
        have HP : Hid (ps[k] = qs[k] ↔ ps[k].1 = qs[k].1 ∧ ps[k].2 = qs[k].2) := Prod.ext_iff
        have bad : ∀ (W' : World), ¬ (ps[k].1 = qs[k].1 ∧ ps[k].2 = qs[k].2) → decide (ps = qs) = false := fun _ hn => by
          rw [decide_eq_false_iff_not]
          intro e
          exact hn (HP.out.1 (by simp [e]))
        have HB := hid bad
        clear bad
        by_cases hc : ps[k].1 = qs[k].1
        · by_cases hd : ps[k].2 = qs[k].2
          · have HC := hid (HP.out.2 ⟨hc, hd⟩)
            have hc' : (ps[k].1 = qs[k].1) = True := by simp [hc]
            have hd' : (ps[k].2 = qs[k].2) = True := by simp [hd]
            clear hc hd HP HB
            refine wp_region_still_lit (by kernel_rfl) (by kernel_rfl) ?_
            iterate 6 still_step
            refine wpStill_nil ?_
            go_wp2
            go_roundg (gk - 1)
            case measure => omega
            case rel => exact ⟨k + 1, by omega, by go_num, HW.out.drew, take_succ_eq hlt hlt' HK.out.2 HC.out⟩
          · have HC := hid (HB.out W (fun h => hd h.2))
            have hc' : (ps[k].1 = qs[k].1) = True := by simp [hc]
            clear hc HP HB
            refine wp_region_still_lit (by kernel_rfl) (by kernel_rfl) ?_
            iterate 6 still_step
            refine wpStill_nil ?_
            go_wp2
            go_ret
            exact ⟨by rw [HC.out]; rfl, HW.out.drew⟩
        · have HC := hid (HB.out W (fun h => hc h.1))
          clear HP HB
          refine wp_region_still_lit (by kernel_rfl) (by kernel_rfl) ?_
          iterate 6 still_step
          refine wpStill_nil ?_
          go_wp2
          go_ret
          exact ⟨by rw [HC.out]; rfl, HW.out.drew⟩
      · clear hK
        go_wp2
        go_ret
        refine ⟨?_, HK.out.1⟩
        have : decide (ps = qs) = true := by
          rw [decide_eq_true_iff]
          have := HK.out.2
          rwa [List.take_of_length_le (by omega), List.take_of_length_le (by omega)] at this
        rw [this]; rfl
  · have hlb : ((ps.length : Int) != (qs.length : Int)) = true := by simp; omega
    have HL := hid hlen
    clear hlen
    go_enter Try.func15, Try.ntmps15
    go_wp2
    go_ret
    refine ⟨?_, Kept.refl _ _⟩
    have : decide (ps = qs) = false := by
      rw [decide_eq_false_iff_not]
      intro e
      exact HL.out (by rw [e])
    rw [this]; rfl


end Go.Proofs.Ytehegllgaiehfaa
