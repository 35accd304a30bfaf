/- The walk of FnAskedVersions. -/
import Derived.Test.YtehegllgaiehfaaLawFnAsked
namespace Go.Proofs.Ytehegllgaiehfaa
open Go.RowKit

set_option maxRecDepth 100000 in
set_option maxHeartbeats 1000000 in
theorem FnAskedVersions_walk (w : World) (vax : Value) (ax : List Ac) (hax : SlA w vax ax) (lax : ax.length ≤ 1599289640400) (wax : ActsW ax) (dax : CapOk vax) (bax : ax.length ≤ 1048576) (x : Int) (rx : -2147483648 ≤ x ∧ x ≤ 2147483647) :
    Calls Try.prog 8 #[vax, .int .i32 x] w fun e w' => e = .returned (.bool true) ∧ Kept Non w w' := by
  have HS := hid0 (And.intro hax (And.intro wax dax))
  have HA := hid0 (fun (W : World) (h : SlA W vax ax) => FnAsked_walk W vax ax h lax wax dax bax x rx)
  clear hax wax dax
  go_enter Try.func8, Try.ntmps8
  go_wp2_with fail
  refine (told_any _ _ ax HS.out.1 lax).mono ?_
  rintro e W1 ⟨b, rfl, g1⟩
  have HG := hid0 g1
  clear g1
  cases b with
  | false =>
    go_wp2
    go_ret
    exact ⟨rfl, HG.out⟩
  | true =>
    go_wp2_with fail
    refine (HA.out _ (HS.out.1.ext HG.out)).mono ?_
    rintro e W2 ⟨rfl, g2⟩
    have H2 := hid0 (HG.out.trans g2)
    clear g2
    go_wp2
    go_ret
    exact ⟨rfl, H2.out⟩

end Go.Proofs.Ytehegllgaiehfaa
