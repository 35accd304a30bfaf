/- impl.Union, impl.Intersection, impl.Difference, and the small functions of their laws. -/
import Derived.Test.YtehegllgaiehfaaUni
import Derived.Test.YtehegllgaiehfaaPl
import Derived.Test.YtehegllgaiehfaaVisit
import Derived.Test.YtehegllgaiehfaaSame
namespace Go.Proofs.Ytehegllgaiehfaa
open Go.RowKit

/-- three slices are returned -/
def Ret3 (w : World) (z x y : Ps) (e : Ending) (w' : World) : Prop := ∃ v1 v2 v3, e = .returned (.tuple #[v1, v2, v3]) ∧ SlP w' v1 z ∧ SlP w' v2 x ∧ SlP w' v3 y ∧ Ok z ∧ Kept Non w w'

set_option maxRecDepth 100000 in
set_option maxHeartbeats 1000000 in
theorem IUnion_any (w : World) (v u : Value) (p q : Ps) (m : Mx) (hp : SlP w v p) (hq : SlP w u q) (lp : p.length ≤ 8796093022208) (lq : q.length ≤ 8796093022208) (kp : KeysOk p) (kq : KeysOk q) :
    Calls Try.prog 10 #[v, u, mxv m] w (Ret3 w (unionI (opOf m) (treeP p) (treeP q)) (treeP p) (treeP q)) := by
  have G0 := hid0 (And.intro (Kept.refl Non w) (And.intro hp hq))
  have HK := hid0 (And.intro kp kq)
  clear hp hq kp kq
  simp only [mxv]
  go_enter Try.func10, Try.ntmps10
  go_wp2_with fail
  refine (tree_any _ v p (G0.out.2.1.ext ((Kept.refl _ _).alloc _)) (by omega) HK.out.1).mono ?_
  rintro e W1 ⟨tb, rfl, _, h1, g⟩
  have G1 := hid0 (And.intro ((G0.out.1.alloc _).trans g) (And.intro ((G0.out.2.1.ext ((Kept.refl _ _).alloc _)).ext g) (And.intro ((G0.out.2.2.ext ((Kept.refl _ _).alloc _)).ext g) (And.intro ((MixAt.ext (m := m) ⟨alloc_new _ _⟩ g)) (h1)))))
  clear g h1 G0
  go_wp2_with fail
  refine (tree_any _ u q G1.out.2.2.1 (by omega) HK.out.2).mono ?_
  rintro e W2 ⟨ub, rfl, _, h1, g⟩
  have G2 := hid0 (And.intro (G1.out.1.trans g) (And.intro (G1.out.2.1.ext g) (And.intro (G1.out.2.2.1.ext g) (And.intro (G1.out.2.2.2.1.ext g) (And.intro (G1.out.2.2.2.2.ext g) (h1))))))
  clear g h1 G1
  obtain ⟨m0, m1, m2, m3, m4, m5⟩ := G2.out.2.2.2.1.cells
  try simp only at m0 m1 m2 m3 m4 m5
  go_wp2_with fail
  refine (call_any _ m).mono ?_
  rintro e W3 ⟨f, rfl, hf, g⟩
  have G3 := hid0 (And.intro (G2.out.1.trans g) (And.intro (G2.out.2.1.ext g) (And.intro (G2.out.2.2.1.ext g) (And.intro (G2.out.2.2.2.1.ext g) (And.intro (G2.out.2.2.2.2.1.ext g) (And.intro (G2.out.2.2.2.2.2.ext g) (hf)))))))
  clear g hf m0 m1 m2 m3 m4 m5 G2
  go_wp2_with fail
  refine (TUnion_any _ tb ub _ _ G3.out.2.2.2.2.1 G3.out.2.2.2.2.2.1 f _ G3.out.2.2.2.2.2.2).mono ?_
  rintro e W4 ⟨vb, rfl, h1, g⟩
  have G4 := hid0 (And.intro (G3.out.1.trans g) (And.intro (G3.out.2.1.ext g) (And.intro (G3.out.2.2.1.ext g) (And.intro (G3.out.2.2.2.1.ext g) (And.intro (G3.out.2.2.2.2.1.ext g) (And.intro (G3.out.2.2.2.2.2.1.ext g) (And.intro (G3.out.2.2.2.2.2.2.ext g) (h1))))))))
  clear g h1 G3
  go_wp2_with fail
  refine (pairs_any _ vb 0 _ G4.out.2.2.2.2.2.2.2.at).mono ?_
  rintro e W5 ⟨v1, rfl, o, g⟩
  have G5 := hid0 (And.intro (G4.out.1.trans g) (And.intro (G4.out.2.1.ext g) (And.intro (G4.out.2.2.1.ext g) (And.intro (G4.out.2.2.2.1.ext g) (And.intro (G4.out.2.2.2.2.1.ext g) (And.intro (G4.out.2.2.2.2.2.1.ext g) (And.intro (G4.out.2.2.2.2.2.2.1.ext g) (And.intro (G4.out.2.2.2.2.2.2.2.ext g) (OwnP.sl o)))))))))
  clear g o G4
  go_wp2_with fail
  refine (pairs_any _ tb 0 _ G5.out.2.2.2.2.1.at).mono ?_
  rintro e W6 ⟨v2, rfl, o, g⟩
  have G6 := hid0 (And.intro (G5.out.1.trans g) (And.intro (G5.out.2.1.ext g) (And.intro (G5.out.2.2.1.ext g) (And.intro (G5.out.2.2.2.1.ext g) (And.intro (G5.out.2.2.2.2.1.ext g) (And.intro (G5.out.2.2.2.2.2.1.ext g) (And.intro (G5.out.2.2.2.2.2.2.1.ext g) (And.intro (G5.out.2.2.2.2.2.2.2.1.ext g) (And.intro (G5.out.2.2.2.2.2.2.2.2.ext g) (OwnP.sl o))))))))))
  clear g o G5
  go_wp2_with fail
  refine (pairs_any _ ub 0 _ G6.out.2.2.2.2.2.1.at).mono ?_
  rintro e W7 ⟨v3, rfl, o, g⟩
  have G7 := hid0 (And.intro (G6.out.1.trans g) (And.intro (G6.out.2.1.ext g) (And.intro (G6.out.2.2.1.ext g) (And.intro (G6.out.2.2.2.1.ext g) (And.intro (G6.out.2.2.2.2.1.ext g) (And.intro (G6.out.2.2.2.2.2.1.ext g) (And.intro (G6.out.2.2.2.2.2.2.1.ext g) (And.intro (G6.out.2.2.2.2.2.2.2.1.ext g) (And.intro (G6.out.2.2.2.2.2.2.2.2.1.ext g) (And.intro (G6.out.2.2.2.2.2.2.2.2.2.ext g) (OwnP.sl o)))))))))))
  clear g o G6
  go_wp2
  go_ret3
  exact ⟨v1, v2, v3, rfl, G7.out.2.2.2.2.2.2.2.2.1, G7.out.2.2.2.2.2.2.2.2.2.1, G7.out.2.2.2.2.2.2.2.2.2.2, G7.out.2.2.2.2.2.2.2.1.ok, G7.out.1⟩


set_option maxRecDepth 100000 in
set_option maxHeartbeats 1000000 in
theorem IDifference_any (w : World) (v u : Value) (p q : Ps) (m : Mx) (hp : SlP w v p) (hq : SlP w u q) (lp : p.length ≤ 8796093022208) (lq : q.length ≤ 8796093022208) (kp : KeysOk p) (kq : KeysOk q) :
    Calls Try.prog 24 #[v, u, mxv m] w (Ret3 w (diffI (opOf m) (treeP p) (treeP q)) (treeP p) (treeP q)) := by
  have G0 := hid0 (And.intro (Kept.refl Non w) (And.intro hp hq))
  have HK := hid0 (And.intro kp kq)
  clear hp hq kp kq
  simp only [mxv]
  go_enter Try.func24, Try.ntmps24
  go_wp2_with fail
  refine (tree_any _ v p (G0.out.2.1.ext ((Kept.refl _ _).alloc _)) (by omega) HK.out.1).mono ?_
  rintro e W1 ⟨tb, rfl, _, h1, g⟩
  have G1 := hid0 (And.intro ((G0.out.1.alloc _).trans g) (And.intro ((G0.out.2.1.ext ((Kept.refl _ _).alloc _)).ext g) (And.intro ((G0.out.2.2.ext ((Kept.refl _ _).alloc _)).ext g) (And.intro ((MixAt.ext (m := m) ⟨alloc_new _ _⟩ g)) (h1)))))
  clear g h1 G0
  go_wp2_with fail
  refine (tree_any _ u q G1.out.2.2.1 (by omega) HK.out.2).mono ?_
  rintro e W2 ⟨ub, rfl, _, h1, g⟩
  have G2 := hid0 (And.intro (G1.out.1.trans g) (And.intro (G1.out.2.1.ext g) (And.intro (G1.out.2.2.1.ext g) (And.intro (G1.out.2.2.2.1.ext g) (And.intro (G1.out.2.2.2.2.ext g) (h1))))))
  clear g h1 G1
  obtain ⟨m0, m1, m2, m3, m4, m5⟩ := G2.out.2.2.2.1.cells
  try simp only at m0 m1 m2 m3 m4 m5
  go_wp2_with fail
  refine (call_any _ m).mono ?_
  rintro e W3 ⟨f, rfl, hf, g⟩
  have G3 := hid0 (And.intro (G2.out.1.trans g) (And.intro (G2.out.2.1.ext g) (And.intro (G2.out.2.2.1.ext g) (And.intro (G2.out.2.2.2.1.ext g) (And.intro (G2.out.2.2.2.2.1.ext g) (And.intro (G2.out.2.2.2.2.2.ext g) (hf)))))))
  clear g hf m0 m1 m2 m3 m4 m5 G2
  go_wp2_with fail
  refine (TDifference_any _ tb ub _ _ G3.out.2.2.2.2.1 G3.out.2.2.2.2.2.1 f _ G3.out.2.2.2.2.2.2).mono ?_
  rintro e W4 ⟨vb, rfl, h1, g⟩
  have G4 := hid0 (And.intro (G3.out.1.trans g) (And.intro (G3.out.2.1.ext g) (And.intro (G3.out.2.2.1.ext g) (And.intro (G3.out.2.2.2.1.ext g) (And.intro (G3.out.2.2.2.2.1.ext g) (And.intro (G3.out.2.2.2.2.2.1.ext g) (And.intro (G3.out.2.2.2.2.2.2.ext g) (h1))))))))
  clear g h1 G3
  go_wp2_with fail
  refine (pairs_any _ vb 0 _ G4.out.2.2.2.2.2.2.2.at).mono ?_
  rintro e W5 ⟨v1, rfl, o, g⟩
  have G5 := hid0 (And.intro (G4.out.1.trans g) (And.intro (G4.out.2.1.ext g) (And.intro (G4.out.2.2.1.ext g) (And.intro (G4.out.2.2.2.1.ext g) (And.intro (G4.out.2.2.2.2.1.ext g) (And.intro (G4.out.2.2.2.2.2.1.ext g) (And.intro (G4.out.2.2.2.2.2.2.1.ext g) (And.intro (G4.out.2.2.2.2.2.2.2.ext g) (OwnP.sl o)))))))))
  clear g o G4
  go_wp2_with fail
  refine (pairs_any _ tb 0 _ G5.out.2.2.2.2.1.at).mono ?_
  rintro e W6 ⟨v2, rfl, o, g⟩
  have G6 := hid0 (And.intro (G5.out.1.trans g) (And.intro (G5.out.2.1.ext g) (And.intro (G5.out.2.2.1.ext g) (And.intro (G5.out.2.2.2.1.ext g) (And.intro (G5.out.2.2.2.2.1.ext g) (And.intro (G5.out.2.2.2.2.2.1.ext g) (And.intro (G5.out.2.2.2.2.2.2.1.ext g) (And.intro (G5.out.2.2.2.2.2.2.2.1.ext g) (And.intro (G5.out.2.2.2.2.2.2.2.2.ext g) (OwnP.sl o))))))))))
  clear g o G5
  go_wp2_with fail
  refine (pairs_any _ ub 0 _ G6.out.2.2.2.2.2.1.at).mono ?_
  rintro e W7 ⟨v3, rfl, o, g⟩
  have G7 := hid0 (And.intro (G6.out.1.trans g) (And.intro (G6.out.2.1.ext g) (And.intro (G6.out.2.2.1.ext g) (And.intro (G6.out.2.2.2.1.ext g) (And.intro (G6.out.2.2.2.2.1.ext g) (And.intro (G6.out.2.2.2.2.2.1.ext g) (And.intro (G6.out.2.2.2.2.2.2.1.ext g) (And.intro (G6.out.2.2.2.2.2.2.2.1.ext g) (And.intro (G6.out.2.2.2.2.2.2.2.2.1.ext g) (And.intro (G6.out.2.2.2.2.2.2.2.2.2.ext g) (OwnP.sl o)))))))))))
  clear g o G6
  go_wp2
  go_ret3
  exact ⟨v1, v2, v3, rfl, G7.out.2.2.2.2.2.2.2.2.1, G7.out.2.2.2.2.2.2.2.2.2.1, G7.out.2.2.2.2.2.2.2.2.2.2, G7.out.2.2.2.2.2.2.2.1.ok, G7.out.1⟩

theorem no_any (w : World) : Calls Try.prog 25 #[] w (fun e w' => e = .returned (mxv mN) ∧ Kept Non w w') := by
  go_enter Try.func25, Try.ntmps25
  go_wp2
  exact bodyPost_ret (v := .agg #[.bool true, .int .i64 0, .int .i64 0, .int .i64 0, .int .i64 0, .int .i64 0]) (by simp [results, Try.results25, go_sem]) rfl ⟨rfl, (Kept.refl _ _).alloc _⟩






end Go.Proofs.Ytehegllgaiehfaa
