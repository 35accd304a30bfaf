/- The walk of FnInPlace. -/
import Derived.Test.YtlmbgkgnbebkiaaInPl
import Derived.Test.YtlmbgkgnbebkiaaIHist
namespace Go.Proofs.Ytlmbgkgnbebkiaa
open Go.RowKit

set_option maxRecDepth 100000 in
set_option maxHeartbeats 1000000 in
theorem FnInPlace_walk (w : World) (vax : Value) (ax : List Ac) (hax : SlA w vax ax) (lax : ax.length ≤ 1599289640400) (wax : ActsW ax) (_dax : CapOk vax) :
    Calls Try.prog 12 #[vax] w fun e w' => e = .returned (.bool true) ∧ Kept Non w w' := by
  obtain ⟨a, cap, rfl⟩ := hax.form
  have HS := hid0 (And.intro hax wax)
  clear hax wax
  go_enter Try.func12, Try.ntmps12
  go_wp2_with fail
  refine (played_any _ _ ax HS.out.1 lax HS.out.2).mono ?_
  rintro e W1 ⟨b, rfl, g1, hb⟩
  have HG := hid0 (And.intro g1 hb)
  clear g1 hb
  cases b with
  | false =>
    go_wp2
    go_ret
    exact ⟨rfl, HG.out.1⟩
  | true =>
    have HPL := hid0 (HG.out.2 rfl)
    have HKY := hid0 (HPL.out.ok HS.out.2)
    go_wp2_with fail
    refine (InPlace_any _ _ ax (HS.out.1.ext (HG.out.1.alloc _)) lax HKY.out).mono ?_
    rintro e W2 ⟨o2, vals, rfl, hH⟩
    obtain ⟨⟨oa, oc, rfl⟩, _⟩ := hH.form (fun s => rfl)
    have HH := hid0 hH
    have hlen : (inpl ax (ax.length + 1)).length = ax.length + 1 := inpl_len _ _
    have hb1 : (((ax.length + 1 : Nat) : Int) != (ax.length : Int) + 1) = false := by simp
    have hb2 : (((ax.length : Int) + 1) != (ax.length : Int) + 1) = false := by simp
    have HW2 := hid0 (((HG.out.1.alloc (.cells #[] 42))).trans hH.kept)
    clear hH
    rw [hlen]
    go_wp2
    go_loopg [3, 21] (ax.length) (fun n s i wr => ∃ k : Nat, k + n = ax.length ∧ i = .int .i64 k ∧ Kept Non W2 wr ∧ SlP wr s (setAt ax k))
    case atStart => exact ⟨0, by simp, rfl, Kept.refl _ _, ⟨_, 0, rfl, fun i x hx => by simp [setAt] at hx⟩⟩
    case round =>
      obtain ⟨k, hk, rfl, hK, hS⟩ := hrel
      have HK := hid0 (And.intro hK hS)
      have hH := HH.out.ext hK
      by_cases hlt : k < ax.length
      · have HGV := hid0 (setAt_good HS.out.2 k (by omega))
        obtain ⟨g, off, s1, rfl, hg, hc1, hp1⟩ := hH.get (fun s => rfl) k (by rw [inpl_len]; omega)
        obtain ⟨x1, y1, z1⟩ := s1
        have v1 := hc1 _ rfl
        simp only [shv] at v1
        rw [inpl_getD _ _ _ (by omega)] at hp1
        obtain ⟨b, offa, rfl, hb, ca⟩ := HS.out.1.act (HW2.out.trans hK) k hlt
        obtain ⟨c0, c1, c2, c3, c4, c5, c6, c7, c8, c9, c10⟩ := ca
        obtain ⟨a, ha⟩ : ∃ a, a = ax[k] := ⟨_, rfl⟩
        rw [← ha] at c0 c1 c2 c3 c4 c5 c6 c7 c8 c9 c10
        have HA := hid0 ha
        clear ha
        have hgn : g ≠ wr.heap.size := Nat.ne_of_lt hg
        have hi0 : (0 : Int) ≤ (k : Int) := Int.natCast_nonneg _
        have hi1 : (k : Int) < (ax.length : Int) + 1 := by omega
        have hi2 : (k : Int) < ((ax.length + 1 : Nat) : Int) := by omega
        have HP := hid0 hp1
        clear hH hK hS hc1 hp1
        go_wp2_with fail
        have hkk : Kept Non wr (wr.alloc (.cells (ac a).toArray 60)) := (Kept.refl _ _).alloc _
        refine (Same_any _ _ _ (setAt ax k) (setAt ax k) (HP.out.sl.ext hkk) (HK.out.2.ext hkk) (by have := HGV.out.len; omega)).mono ?_
        rintro e W3 ⟨rfl, g3⟩
        rw [decide_eq_true (rfl : setAt ax k = setAt ax k)]
        have hab : AcB W3 wr.heap.size a := AcB.ext ⟨alloc_new _ _⟩ g3
        obtain ⟨d0, d1, d2, d3, d4, d5, d6, d7, d8, d9, d10⟩ := hab.at
        simp only [Nat.zero_add] at d0 d1 d2 d3 d4 d5 d6 d7 d8 d9 d10
        have HK3 := hid0 (hkk.trans g3)
        clear hab g3 hkk c0 c1 c2 c3 c4 c5 c6 c7 c8 c9 c10
        go_wp2_with fail
        refine (Update_any _ _ (setAt ax k) a (HK.out.2.ext HK3.out) HGV.out.len).mono ?_
        rintro e W4 ⟨v4, rfl, o4, g4⟩
        have H4 := hid0 (And.intro (OwnP.sl o4) (HK3.out.trans g4))
        generalize (upd (setAt ax k) a).2 = fr
        obtain ⟨f0, f1, f2⟩ := fr
        simp only [fv]
        clear o4 g4 d0 d1 d2 d3 d4 d5 d6 d7 d8 d9 d10
        go_wp2
        go_roundg (gk - 1)
        case measure => omega
        case rel => exact ⟨k + 1, by omega, by go_num, HK.out.1.trans H4.out.2, by rw [setAt_succ ax k hlt, ← HA.out]; exact H4.out.1⟩
      · have hkl : k = ax.length := by omega
        have HKL := hid0 hkl
        clear hkl
        obtain ⟨g, off, s1, rfl, hg, hc1, hp1⟩ := hH.get (fun s => rfl) ax.length (by rw [inpl_len]; omega)
        obtain ⟨x1, y1, z1⟩ := s1
        have v1 := hc1 _ rfl
        simp only [shv] at v1
        rw [inpl_getD _ _ _ (by omega)] at hp1
        have hi0 : (0 : Int) ≤ (ax.length : Int) := Int.natCast_nonneg _
        have hi1 : (ax.length : Int) < (ax.length : Int) + 1 := by omega
        have hi2 : (ax.length : Int) < ((ax.length + 1 : Nat) : Int) := by omega
        have HP := hid0 hp1
        have HGV := hid0 (setAt_good HS.out.2 ax.length (Nat.le_refl _))
        clear hH hK hS hc1 hp1
        rw [HKL.out] at HK
        go_wp2_with fail
        refine (Same_any _ _ _ (setAt ax ax.length) (setAt ax ax.length) HP.out.sl HK.out.2 (by have := HGV.out.len; omega)).mono ?_
        rintro e W3 ⟨rfl, g3⟩
        rw [decide_eq_true (rfl : setAt ax ax.length = setAt ax ax.length)]
        have H3 := hid0 ((HW2.out.trans HK.out.1).trans g3)
        clear g3
        go_wp2
        go_ret
        exact ⟨rfl, H3.out⟩

end Go.Proofs.Ytlmbgkgnbebkiaa
