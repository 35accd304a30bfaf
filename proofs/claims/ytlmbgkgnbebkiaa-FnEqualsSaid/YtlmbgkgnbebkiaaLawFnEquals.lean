/- The walk of FnEquals. -/
import Derived.Test.YtlmbgkgnbebkiaaEq3
import Derived.Test.YtlmbgkgnbebkiaaSame
import Derived.Test.YtlmbgkgnbebkiaaLook
namespace Go.Proofs.Ytlmbgkgnbebkiaa
open Go.RowKit

set_option maxRecDepth 100000 in
set_option maxHeartbeats 4000000 in
theorem FnEquals_walk (w : World) (vp : Value) (p : Ps) (hp : SlP w vp p) (lp : p.length ≤ 8796093021952) (wp : KeysW p) (_dp : DataR p) (vq : Value) (q : Ps) (hq : SlP w vq q) (lq : q.length ≤ 8796093021952) (wq : KeysW q) (_dq : DataR q) :
    Calls Try.prog 3 #[vp, vq] w fun e w' => e = .returned (.bool true) ∧ Kept Non w w' := by
  have HWp := hid0 wp
  have HWq := hid0 wq
  have G0 := hid0 (And.intro (Kept.refl Non w) (And.intro hp hq))
  clear hp hq wp wq
  cases hkp : keyedB p with
  | false =>
    have HKp := hid0 hkp
    clear hkp
    go_enter Try.func3, Try.ntmps3
    go_wp2_with fail
    refine (keyed_any _ vp p G0.out.2.1 (by omega)).mono ?_
    rintro e W1 ⟨rfl, g⟩
    have G1 := hid0 (And.intro (G0.out.1.trans g) (And.intro (G0.out.2.1.ext g) (G0.out.2.2.ext g)))
    clear g G0
    rw [HKp.out]
    go_wp2
    go_ret
    exact ⟨rfl, G1.out.1⟩
  | true =>
    have HKp := hid0 hkp
    clear hkp
    cases hkq : keyedB q with
    | false =>
      have HKq := hid0 hkq
      clear hkq
      go_enter Try.func3, Try.ntmps3
      go_wp2_with fail
      refine (keyed_any _ vp p G0.out.2.1 (by omega)).mono ?_
      rintro e W1 ⟨rfl, g⟩
      have G1 := hid0 (And.intro (G0.out.1.trans g) (And.intro (G0.out.2.1.ext g) (G0.out.2.2.ext g)))
      clear g G0
      rw [HKp.out]
      go_wp2_with fail
      refine (keyed_any _ vq q G1.out.2.2 (by omega)).mono ?_
      rintro e W2 ⟨rfl, g⟩
      have G2 := hid0 (And.intro (G1.out.1.trans g) (And.intro (G1.out.2.1.ext g) (G1.out.2.2.ext g)))
      clear g G1
      rw [HKq.out]
      go_wp2
      go_ret
      exact ⟨rfl, G2.out.1⟩
    | true =>
      have HKq := hid0 hkq
      clear hkq
      go_enter Try.func3, Try.ntmps3
      go_wp2_with fail
      refine (keyed_any _ vp p G0.out.2.1 (by omega)).mono ?_
      rintro e W1 ⟨rfl, g⟩
      have G1 := hid0 (And.intro (G0.out.1.trans g) (And.intro (G0.out.2.1.ext g) (G0.out.2.2.ext g)))
      clear g G0
      rw [HKp.out]
      go_wp2_with fail
      refine (keyed_any _ vq q G1.out.2.2 (by omega)).mono ?_
      rintro e W2 ⟨rfl, g⟩
      have G2 := hid0 (And.intro (G1.out.1.trans g) (And.intro (G1.out.2.1.ext g) (G1.out.2.2.ext g)))
      clear g G1
      rw [HKq.out]
      go_wp2_with fail
      refine (Equals_any _ _ _ p q G2.out.2.1 G2.out.2.2 (by omega) (by omega) (HWp.out.ok HKp.out) (HWq.out.ok HKq.out)).mono ?_
      rintro e W3 ⟨rfl, g⟩
      have G3 := hid0 (And.intro (G2.out.1.trans g) (And.intro (G2.out.2.1.ext g) (G2.out.2.2.ext g)))
      clear g G2
      go_wp2_with fail
      refine (Tree_any _ _ p G3.out.2.1 (by omega) HWp.out).mono ?_
      rintro e W4 ⟨tv, rfl, o, g⟩
      have G4 := hid0 (And.intro (G3.out.1.trans g) (And.intro (G3.out.2.1.ext g) (And.intro (G3.out.2.2.ext g) (OwnP.sl o))))
      clear g o G3
      go_wp2_with fail
      refine (Tree_any _ _ q G4.out.2.2.1 (by omega) HWq.out).mono ?_
      rintro e W5 ⟨uv, rfl, o, g⟩
      have G5 := hid0 (And.intro (G4.out.1.trans g) (And.intro (G4.out.2.1.ext g) (And.intro (G4.out.2.2.1.ext g) (And.intro (G4.out.2.2.2.ext g) (OwnP.sl o)))))
      clear g o G4
      have hlen := treeP_len HWp.out p.length
      rw [List.take_length] at hlen
      go_wp2_with fail
      refine (Same_any _ _ _ (treeP p) (treeP q) G5.out.2.2.2.1 G5.out.2.2.2.2 (by omega)).mono ?_
      rintro e W6 ⟨rfl, g⟩
      have G6 := hid0 (And.intro (G5.out.1.trans g) (And.intro (G5.out.2.1.ext g) (And.intro (G5.out.2.2.1.ext g) (And.intro (G5.out.2.2.2.1.ext g) (G5.out.2.2.2.2.ext g)))))
      clear g G5
      generalize decide (treeP p = treeP q) = R
      cases R
      · go_wp2
        go_ret
        exact ⟨rfl, G6.out.1⟩
      · go_wp2
        go_ret
        exact ⟨rfl, G6.out.1⟩

end Go.Proofs.Ytlmbgkgnbebkiaa
