/- The walk of FnCopies. -/
import Derived.Test.YtlmbgkgnbebkiaaInPl
import Derived.Test.YtlmbgkgnbebkiaaIHist
namespace Go.Proofs.Ytlmbgkgnbebkiaa
open Go.RowKit

set_option maxRecDepth 100000 in
set_option maxHeartbeats 1000000 in
theorem FnCopies_walk (w : World) (vax : Value) (ax : List Ac) (hax : SlA w vax ax) (lax : ax.length ≤ 1599289640400) (wax : ActsW ax) (dax : CapOk vax) :
    Calls Try.prog 11 #[vax] w fun e w' => e = .returned (.bool true) ∧ Kept Non w w' := by
  obtain ⟨a, cap, rfl⟩ := hax.form
  have HS := hid0 (And.intro hax wax)
  have HC := hid0 (dax _ _ _ rfl)
  clear hax wax dax
  go_enter Try.func11, Try.ntmps11
  go_wp2_with fail
  refine (played_any _ _ ax HS.out.1 lax HS.out.2).mono ?_
  rintro e W1 ⟨b, rfl, g1, hb⟩
  have HG := hid0 (And.intro g1 hb)
  clear g1 hb
  cases b with
  | false =>
    go_wp2
    go_ret
    exact ⟨rfl, HG.out.1⟩
  | true =>
    have HPL := hid0 (HG.out.2 rfl)
    have HKY := hid0 (HPL.out.ok HS.out.2)
    go_wp2_with fail
    refine (InPlace_any _ _ ax (HS.out.1.ext HG.out.1) lax HKY.out).mono ?_
    rintro e W2 ⟨o2, vals, rfl, hH⟩
    obtain ⟨⟨oa, oc, rfl⟩, _⟩ := hH.form (fun s => rfl)
    have HH := hid0 hH
    have hlen : (inpl ax (ax.length + 1)).length = ax.length + 1 := inpl_len _ _
    have hb1 : (((ax.length + 1 : Nat) : Int) != (ax.length : Int) + 1) = false := by simp
    have hb2 : (((ax.length : Int) + 1) != (ax.length : Int) + 1) = false := by simp
    have HW2 := hid0 (HG.out.1.trans hH.kept)
    clear hH
    rw [hlen]
    go_wp2
    go_loopg [20] (ax.length + 1) (fun n i wr => ∃ k : Nat, k + n = ax.length + 1 ∧ i = .int .i64 k ∧ Kept Non W2 wr)
    case atStart => exact ⟨0, by simp, rfl, Kept.refl _ _⟩
    case round =>
      obtain ⟨k, hk, rfl, hK⟩ := hrel
      have HK := hid0 hK
      have hH := HH.out.ext hK
      by_cases hlt : k < ax.length + 1
      · have HGV := hid0 (setAt_good HS.out.2 k (by omega))
        obtain ⟨g, off, s1, rfl, hg, hc1, hp1⟩ := hH.get (fun s => rfl) k (by rw [inpl_len]; omega)
        obtain ⟨x1, y1, z1⟩ := s1
        have v1 := hc1 _ rfl
        simp only [shv] at v1
        rw [inpl_getD _ _ _ (by omega)] at hp1
        have hi0 : (0 : Int) ≤ (k : Int) := Int.natCast_nonneg _
        have hi1 : (k : Int) < (ax.length : Int) + 1 := by omega
        have hi2 : (k : Int) < ((ax.length + 1 : Nat) : Int) := by omega
        have hkc : k ≤ cap := by have := HC.out; omega
        have HP := hid0 hp1
        clear hH hK hc1 hp1
        go_wp2_with fail
        refine (InPlace_any _ _ (ax.take k) ((HS.out.1.ext (HW2.out.trans HK.out)).take k (by omega)) (by rw [List.length_take]; omega) (fun a ha => HKY.out a (List.mem_of_mem_take ha))).mono ?_
        rintro e W3 ⟨o3, vals3, rfl, hH3⟩
        have hl3 : (ax.take k).length = k := by rw [List.length_take]; omega
        rw [hl3] at hH3
        obtain ⟨⟨pa, pc0, rfl⟩, _⟩ := hH3.form (fun s => rfl)
        obtain ⟨g', off', s2, rfl, hg', hc2, hp2⟩ := hH3.get (fun s => rfl) k (by rw [inpl_len]; omega)
        obtain ⟨x2, y2, z2⟩ := s2
        have v2 := hc2 _ rfl
        simp only [shv] at v2
        rw [inpl_getD _ _ _ (by omega), setAt_take _ _ _ (Nat.le_refl _)] at hp2
        have HP2 := hid0 (And.intro hp2 hH3.kept)
        have hb3 : (((k + 1 : Nat) : Int) != (k : Int) + 1) = false := by simp
        have hb4 : (((k : Int) + 1) != (k : Int) + 1) = false := by simp
        have hl4 : (inpl (ax.take k) (k + 1)).length = k + 1 := inpl_len _ _
        rw [hl4]
        have hi3 : (k : Int) < (k : Int) + 1 := by omega
        clear hH3 hc2 hp2 hl4
        go_wp2_with fail
        refine (Same_any _ _ _ (setAt ax k) (setAt ax k) (HP.out.sl.ext HP2.out.2) HP2.out.1.sl (by have := HGV.out.len; omega)).mono ?_
        rintro e W4 ⟨rfl, g4⟩
        rw [decide_eq_true (rfl : setAt ax k = setAt ax k)]
        have H4 := hid0 (HP2.out.2.trans g4)
        clear g4
        go_wp2
        go_roundg (gk - 1)
        case measure => omega
        case rel => exact ⟨k + 1, by omega, by go_num, HK.out.trans H4.out⟩
      · clear hH hK
        go_wp2
        go_ret
        exact ⟨rfl, HW2.out.trans HK.out⟩

end Go.Proofs.Ytlmbgkgnbebkiaa
