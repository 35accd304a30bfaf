/- The walk of FnMatches. -/
import Derived.Test.YtlmbgkgnbebkiaaMt
namespace Go.Proofs.Ytlmbgkgnbebkiaa
open Go.RowKit

theorem cell_kept {W W' : World} {a : Addr} {v : Value} (h : W.cell? a = some v) (hk : Kept Non W W') : W'.cell? a = some v := (World.cell?_of_block (hk.block a.block (World.block_lt_of_cell? _ _ h) (fun h => h))).trans h
theorem hold2 {W W' : World} {a b : Addr} {u v : Value} (h : W.cell? a = some u) (h' : W.cell? b = some v) (hk : Kept Non W W') : W'.cell? a = some u ∧ W'.cell? b = some v ∧ Kept Non W W' := ⟨cell_kept h hk, cell_kept h' hk, hk⟩
set_option maxRecDepth 100000 in
set_option maxHeartbeats 1000000 in
theorem FnMatches_walk (w : World) (vax : Value) (ax : List Ac) (hax : SlA w vax ax) (lax : ax.length ≤ 1599289640400) (wax : ActsW ax) (_dax : CapOk vax) :
    Calls Try.prog 14 #[vax] w fun e w' => e = .returned (.bool true) ∧ Kept Non w w' := by
  have HS := hid0 (And.intro hax wax)
  have hgv := hist_good wax ax.length (Nat.le_refl _)
  have hlen := (hist_len ax ax.length (Nat.le_refl _)).1
  rw [List.take_length] at hgv hlen
  have hm := fun W h2 h3 => Matches_any W vax ax h2 lax wax h3
  have hh := fun W h2 => History_any W vax ax h2 lax wax
  obtain ⟨⟨vs, fs⟩, hv⟩ : ∃ H, H = hist ax := ⟨_, rfl⟩
  rw [← hv] at hgv hlen hm hh
  simp only at hgv hlen hm
  have HGV := hid0 hgv
  have HMH := hid0 (And.intro hm hh)
  have hn : vs.length ≤ 1599289640401 := by omega
  clear hax wax hgv hlen hv hm hh
  go_enter Try.func14, Try.ntmps14
  go_wp2_with fail
  refine (played_any _ _ ax HS.out.1 lax HS.out.2).mono ?_
  rintro e W1 ⟨b, rfl, g1, hb⟩
  have HG := hid0 (And.intro g1 hb)
  clear g1 hb
  cases b with
  | false =>
    go_wp2
    go_ret
    exact ⟨rfl, HG.out.1⟩
  | true =>
    have HPL := hid0 (HG.out.2 rfl)
    go_wp2_with fail
    refine (HMH.out.2 _ (HS.out.1.ext HG.out.1)).mono ?_
    rintro e W2 ⟨o2, t2, vals2, rfl, h2⟩
    simp only at h2
    obtain ⟨⟨oa, oc, rfl⟩, ta, tc, rfl⟩ := h2.form (fun s => rfl)
    have H2 := hid0 (And.intro h2 (HG.out.1.trans h2.kept))
    clear h2
    go_wp2_with fail
    refine (HMH.out.1 _ (HS.out.1.ext H2.out.2) HPL.out).mono ?_
    rintro e W3 ⟨o3, vals3, rfl, h3⟩
    have hrl : (eqRows vs).length = vs.length := by simp [eqRows]
    obtain ⟨qa, qc, rfl⟩ : ∃ a c, o3 = .slice a vs.length c := by
      obtain ⟨a, c, e⟩ := h3.form
      exact ⟨a, c, by rw [e, hrl]⟩
    have H3 := hid0 (And.intro h3 (And.intro (H2.out.1.ext h3.kept) (H2.out.2.trans h3.kept)))
    have hb1 : ((vs.length : Int) != (vs.length : Int)) = false := by simp
    have HRL := hid0 hrl
    clear h3 HMH hrl
    go_wp2
    go_loopg [27] (vs.length) (fun n i wr => ∃ k : Nat, k + n = vs.length ∧ i = .int .i64 k ∧ Kept Non W3 wr)
    case atStart => exact ⟨0, by simp, rfl, Kept.refl _ _⟩
    case round =>
      obtain ⟨k, hk, rfl, hK⟩ := hrel
      rename World => wo
      have HK := hid0 hK
      by_cases hlt : k < vs.length
      · obtain ⟨g, off, s1, rfl, hg, v1, hp1⟩ := (H3.out.1.ext hK).get k (by rw [HRL.out]; exact hlt)
        have hrow : (eqRows vs)[k]'(by rw [HRL.out]; exact hlt) = eqRow vs vs[k] := by simp [eqRows]
        rw [hrow] at hp1
        obtain ⟨x1, y1, z1⟩ := s1
        obtain rfl : y1 = vs.length := by
          obtain ⟨a, c, e⟩ := hp1.sl.form
          simp only [shv, Value.slice.injEq] at e
          rw [e.2.1]; simp [eqRow]
        simp only [shv] at v1
        have HP := hid0 hp1
        have hi0 : (0 : Int) ≤ (k : Int) := Int.natCast_nonneg _
        have hi1 : (k : Int) < (vs.length : Int) := by omega
        clear hK hp1 hrow
        go_wp2
        go_loopg [39] (vs.length) (fun n i wz => ∃ m : Nat, m + n = vs.length ∧ i = .int .i64 m ∧ Kept Non wo wz)
        case atStart => exact ⟨0, by simp, rfl, Kept.refl _ _⟩
        case round =>
          obtain ⟨m, hm, rfl, hK2⟩ := hrel
          have HK2 := hid0 hK2
          by_cases hlt2 : m < vs.length
          · have hln : m < (eqRow vs vs[k]).length := by simp [eqRow]; exact hlt2
            obtain ⟨b4, off4, rfl, _, c4⟩ := HP.out.sl.bool hK2 m hln
            have hval : (eqRow vs vs[k])[m] = decide (vs[k] = vs[m]) := by simp [eqRow]
            rw [hval] at c4
            have hH := (H3.out.2.1.ext (HK.out.trans hK2))
            obtain ⟨g5, off5, s5, rfl, hg5, hc5, hp5⟩ := hH.get (fun s => rfl) k hlt
            obtain ⟨g6, off6, s6, he, _, hc6, hp6⟩ := hH.get (fun s => rfl) m hlt2
            cases he
            obtain ⟨x5, y5, z5⟩ := s5
            obtain ⟨x6, y6, z6⟩ := s6
            have v5 := hc5 _ rfl
            have v6 := hc6 _ rfl
            simp only [shv] at v5 v6
            have e5 : vs.getD k [] = vs[k] := by rw [List.getD_eq_getElem?_getD, List.getElem?_eq_getElem hlt]; rfl
            have e6 : vs.getD m [] = vs[m] := by rw [List.getD_eq_getElem?_getD, List.getElem?_eq_getElem hlt2]; rfl
            rw [e5] at hp5
            rw [e6] at hp6
            have HPP := hid0 (And.intro hp5 hp6)
            have HLE : Hid (vs[k].length ≤ 4294967296) := (HGV.out _ (List.getElem_mem hlt)).len
            obtain ⟨r, hr⟩ : ∃ r, r = decide (vs[k] = vs[m]) := ⟨_, rfl⟩
            rw [← hr] at c4
            have HR := hid0 hr
            have hj0 : (0 : Int) ≤ (m : Int) := Int.natCast_nonneg _
            have hj1 : (m : Int) < (vs.length : Int) := by omega
            clear hK2 hln hval hH hc5 hc6 hp5 hp6 e5 e6 hr v1
            go_wp2_with fail
            have HC := hid0 (And.intro v5 v6)
            have hk0 : Kept Non wr wr := Kept.refl _ _
            go_region_held3 (fun W' => W'.cell? ⟨g5, off5 + k, none⟩ = some (.slice x5 y5 z5) ∧ W'.cell? ⟨g5, off5 + m, none⟩ = some (.slice x6 y6 z6) ∧ Kept Non wr W')
              (first | exact hold2 HC.out.1 HC.out.2 (Kept.refl _ _).drew | exact hold2 HC.out.1 HC.out.2 (((Kept.refl _ _).drew).trans gS))
              (first | (go_at_call 17; refine (Same_any _ _ _ vs[k] vs[m] (HPP.out.1.sl.ext (Kept.refl _ _).drew) (HPP.out.2.sl.ext (Kept.refl _ _).drew) (by have := HLE.out; omega)).mono ?_; rintro e W5 ⟨rfl, gS⟩; rw [← HR.out]))
            have H5 := hid0 ((HK2.out.drew).trans gS)
            have hrr : (r != r) = false := by simp
            clear gS
            go_wp2
            go_roundg (gk - 1)
            case measure => omega
            case rel => exact ⟨m + 1, by omega, by go_num, H5.out⟩
          · clear hK2
            go_wp2
            go_roundg (vs.length - (k + 1))
            case measure => omega
            case rel => exact ⟨k + 1, by omega, by go_num, HK.out.trans HK2.out⟩
      · clear hK
        go_wp2
        go_ret
        exact ⟨rfl, H3.out.2.2.trans HK.out⟩

end Go.Proofs.Ytlmbgkgnbebkiaa
