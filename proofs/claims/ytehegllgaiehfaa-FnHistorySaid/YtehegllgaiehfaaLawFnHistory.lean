/- The walk of FnHistory. -/
import Derived.Test.YtehegllgaiehfaaHi
namespace Go.Proofs.Ytehegllgaiehfaa
open Go.RowKit

set_option maxRecDepth 100000 in
set_option maxHeartbeats 1000000 in
theorem FnHistory_walk (w : World) (vax : Value) (ax : List Ac) (hax : SlA w vax ax) (lax : ax.length ≤ 1599289640400) (wax : ActsW ax) (_dax : CapOk vax) :
    Calls Try.prog 4 #[vax] w fun e w' => e = .returned (.bool true) ∧ Kept Non w w' := by
  have HS := hid0 (And.intro hax wax)
  have hgv := hist_good wax ax.length (Nat.le_refl _)
  have hlen := (hist_len ax ax.length (Nat.le_refl _)).1
  have hlen2 := (hist_len ax ax.length (Nat.le_refl _)).2
  rw [List.take_length] at hgv hlen hlen2
  have HGV := hid0 hgv
  have HLN := hid0 (And.intro hlen hlen2)
  clear hax wax hgv hlen hlen2
  go_enter Try.func4, Try.ntmps4
  go_wp2_with fail
  refine (played_any _ _ ax HS.out.1 lax HS.out.2).mono ?_
  rintro e W1 ⟨b, rfl, g1, hb⟩
  have HG := hid0 (And.intro g1 hb)
  clear g1 hb
  cases b with
  | false =>
    go_wp2
    go_ret
    exact ⟨rfl, HG.out.1⟩
  | true =>
    have HPL := hid0 (HG.out.2 rfl)
    have HGB := hid0 HG.out.1
    go_wp2_with fail
    refine (History_any _ _ ax (HS.out.1.ext HGB.out) lax HS.out.2).mono ?_
    rintro e W2 ⟨o2, t2, vals2, rfl, h2⟩
    have H2 := hid0 (And.intro h2 (HGB.out.trans h2.kept))
    clear h2
    go_wp2_with fail
    refine (IHistory_any _ _ ax (HS.out.1.ext H2.out.2) lax HS.out.2 HPL.out).mono ?_
    rintro e W3 ⟨o3, t3, vals3, rfl, h3, s3⟩
    have H3 := hid0 (And.intro h3 (And.intro s3 (And.intro (H2.out.1.ext h3.kept) (H2.out.2.trans h3.kept))))
    clear h3 s3
    go_wp2_with fail
    refine (sameAll_any _ _ _ _ _ _ _ _ _ _ _ _ H3.out.1 H3.out.2.2.1 (by have := HLN.out.1; omega) HGV.out).mono ?_
    rintro e W4 ⟨rfl, g4⟩
    have H4 := hid0 (And.intro (H3.out.2.2.2.trans g4) g4)
    clear g4
    go_wp2_with fail
    refine (SameFound_any _ _ _ (hist ax).2 (hist ax).2 (H3.out.2.1.ext H4.out.2) (OwnF.sl (H3.out.2.2.1.tol.ext' H4.out.2)) (by have := HLN.out.2; omega)).mono ?_
    rintro e W5 ⟨rfl, g5⟩
    rw [decide_eq_true (rfl : (hist ax).2 = (hist ax).2)]
    have H5 := hid0 (H4.out.1.trans g5)
    clear g5
    go_wp2
    go_ret
    exact ⟨rfl, H5.out⟩

end Go.Proofs.Ytehegllgaiehfaa
