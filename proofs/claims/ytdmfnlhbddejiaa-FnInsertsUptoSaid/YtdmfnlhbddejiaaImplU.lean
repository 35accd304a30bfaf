/- impl.Union, impl.Intersection, impl.Difference, and the small functions of their laws. -/
import Derived.Test.YtdmfnlhbddejiaaUni
import Derived.Test.YtdmfnlhbddejiaaPl
import Derived.Test.YtdmfnlhbddejiaaVisit
import Derived.Test.YtdmfnlhbddejiaaSame
namespace Go.Proofs.Ytdmfnlhbddejiaa
open Go.RowKit

/-- three slices are returned -/
def Ret3 (w : World) (z x y : Ps) (e : Ending) (w' : World) : Prop := ∃ v1 v2 v3, e = .returned (.tuple #[v1, v2, v3]) ∧ SlP w' v1 z ∧ SlP w' v2 x ∧ SlP w' v3 y ∧ Ok z ∧ Kept Non w w'

set_option maxRecDepth 100000 in
set_option maxHeartbeats 1000000 in
theorem IUnion_any (w : World) (v u : Value) (p q : Ps) (m : Mx) (hp : SlP w v p) (hq : SlP w u q) (lp : p.length ≤ 8796093022208) (lq : q.length ≤ 8796093022208) (kp : KeysOk p) (kq : KeysOk q) :
    Calls Try.prog 27 #[v, u, mxv m] w (Ret3 w (unionI (opOf m) (treeP p) (treeP q)) (treeP p) (treeP q)) := by
  have G0 := hid0 (And.intro (Kept.refl Non w) (And.intro hp hq))
  have HK := hid0 (And.intro kp kq)
  clear hp hq kp kq
  simp only [mxv]
  go_enter Try.func27, Try.ntmps27
  go_wp2_with fail
  refine (tree_any _ v p (G0.out.2.1.ext ((Kept.refl _ _).alloc _)) (by omega) HK.out.1).mono ?_
  rintro e W1 ⟨tb, rfl, _, h1, g⟩
  have G1 := hid0 (And.intro ((G0.out.1.alloc _).trans g) (And.intro ((G0.out.2.1.ext ((Kept.refl _ _).alloc _)).ext g) (And.intro ((G0.out.2.2.ext ((Kept.refl _ _).alloc _)).ext g) (And.intro ((MixAt.ext (m := m) ⟨alloc_new _ _⟩ g)) (h1)))))
  clear g h1 G0
  go_wp2_with fail
  refine (tree_any _ u q G1.out.2.2.1 (by omega) HK.out.2).mono ?_
  rintro e W2 ⟨ub, rfl, _, h1, g⟩
  have G2 := hid0 (And.intro (G1.out.1.trans g) (And.intro (G1.out.2.1.ext g) (And.intro (G1.out.2.2.1.ext g) (And.intro (G1.out.2.2.2.1.ext g) (And.intro (G1.out.2.2.2.2.ext g) (h1))))))
  clear g h1 G1
  obtain ⟨m0, m1, m2, m3, m4, m5⟩ := G2.out.2.2.2.1.cells
  try simp only at m0 m1 m2 m3 m4 m5
  go_wp2_with fail
  refine (call_any _ m).mono ?_
  rintro e W3 ⟨f, rfl, hf, g⟩
  have G3 := hid0 (And.intro (G2.out.1.trans g) (And.intro (G2.out.2.1.ext g) (And.intro (G2.out.2.2.1.ext g) (And.intro (G2.out.2.2.2.1.ext g) (And.intro (G2.out.2.2.2.2.1.ext g) (And.intro (G2.out.2.2.2.2.2.ext g) (hf)))))))
  clear g hf m0 m1 m2 m3 m4 m5 G2
  go_wp2_with fail
  refine (TUnion_any _ tb ub _ _ G3.out.2.2.2.2.1 G3.out.2.2.2.2.2.1 f _ G3.out.2.2.2.2.2.2).mono ?_
  rintro e W4 ⟨vb, rfl, h1, g⟩
  have G4 := hid0 (And.intro (G3.out.1.trans g) (And.intro (G3.out.2.1.ext g) (And.intro (G3.out.2.2.1.ext g) (And.intro (G3.out.2.2.2.1.ext g) (And.intro (G3.out.2.2.2.2.1.ext g) (And.intro (G3.out.2.2.2.2.2.1.ext g) (And.intro (G3.out.2.2.2.2.2.2.ext g) (h1))))))))
  clear g h1 G3
  go_wp2_with fail
  refine (pairs_any _ vb 0 _ G4.out.2.2.2.2.2.2.2.at).mono ?_
  rintro e W5 ⟨v1, rfl, o, g⟩
  have G5 := hid0 (And.intro (G4.out.1.trans g) (And.intro (G4.out.2.1.ext g) (And.intro (G4.out.2.2.1.ext g) (And.intro (G4.out.2.2.2.1.ext g) (And.intro (G4.out.2.2.2.2.1.ext g) (And.intro (G4.out.2.2.2.2.2.1.ext g) (And.intro (G4.out.2.2.2.2.2.2.1.ext g) (And.intro (G4.out.2.2.2.2.2.2.2.ext g) (OwnP.sl o)))))))))
  clear g o G4
  go_wp2_with fail
  refine (pairs_any _ tb 0 _ G5.out.2.2.2.2.1.at).mono ?_
  rintro e W6 ⟨v2, rfl, o, g⟩
  have G6 := hid0 (And.intro (G5.out.1.trans g) (And.intro (G5.out.2.1.ext g) (And.intro (G5.out.2.2.1.ext g) (And.intro (G5.out.2.2.2.1.ext g) (And.intro (G5.out.2.2.2.2.1.ext g) (And.intro (G5.out.2.2.2.2.2.1.ext g) (And.intro (G5.out.2.2.2.2.2.2.1.ext g) (And.intro (G5.out.2.2.2.2.2.2.2.1.ext g) (And.intro (G5.out.2.2.2.2.2.2.2.2.ext g) (OwnP.sl o))))))))))
  clear g o G5
  go_wp2_with fail
  refine (pairs_any _ ub 0 _ G6.out.2.2.2.2.2.1.at).mono ?_
  rintro e W7 ⟨v3, rfl, o, g⟩
  have G7 := hid0 (And.intro (G6.out.1.trans g) (And.intro (G6.out.2.1.ext g) (And.intro (G6.out.2.2.1.ext g) (And.intro (G6.out.2.2.2.1.ext g) (And.intro (G6.out.2.2.2.2.1.ext g) (And.intro (G6.out.2.2.2.2.2.1.ext g) (And.intro (G6.out.2.2.2.2.2.2.1.ext g) (And.intro (G6.out.2.2.2.2.2.2.2.1.ext g) (And.intro (G6.out.2.2.2.2.2.2.2.2.1.ext g) (And.intro (G6.out.2.2.2.2.2.2.2.2.2.ext g) (OwnP.sl o)))))))))))
  clear g o G6
  go_wp2
  go_ret3
  exact ⟨v1, v2, v3, rfl, G7.out.2.2.2.2.2.2.2.2.1, G7.out.2.2.2.2.2.2.2.2.2.1, G7.out.2.2.2.2.2.2.2.2.2.2, G7.out.2.2.2.2.2.2.2.1.ok, G7.out.1⟩

set_option maxRecDepth 100000 in
set_option maxHeartbeats 1000000 in
theorem IIntersection_any (w : World) (v u : Value) (p q : Ps) (m : Mx) (hp : SlP w v p) (hq : SlP w u q) (lp : p.length ≤ 8796093022208) (lq : q.length ≤ 8796093022208) (kp : KeysOk p) (kq : KeysOk q) :
    Calls Try.prog 21 #[v, u, mxv m] w (Ret3 w (interI (opOf m) (treeP p) (treeP q)) (treeP p) (treeP q)) := by
  have G0 := hid0 (And.intro (Kept.refl Non w) (And.intro hp hq))
  have HK := hid0 (And.intro kp kq)
  clear hp hq kp kq
  simp only [mxv]
  go_enter Try.func21, Try.ntmps21
  go_wp2_with fail
  refine (tree_any _ v p (G0.out.2.1.ext ((Kept.refl _ _).alloc _)) (by omega) HK.out.1).mono ?_
  rintro e W1 ⟨tb, rfl, _, h1, g⟩
  have G1 := hid0 (And.intro ((G0.out.1.alloc _).trans g) (And.intro ((G0.out.2.1.ext ((Kept.refl _ _).alloc _)).ext g) (And.intro ((G0.out.2.2.ext ((Kept.refl _ _).alloc _)).ext g) (And.intro ((MixAt.ext (m := m) ⟨alloc_new _ _⟩ g)) (h1)))))
  clear g h1 G0
  go_wp2_with fail
  refine (tree_any _ u q G1.out.2.2.1 (by omega) HK.out.2).mono ?_
  rintro e W2 ⟨ub, rfl, _, h1, g⟩
  have G2 := hid0 (And.intro (G1.out.1.trans g) (And.intro (G1.out.2.1.ext g) (And.intro (G1.out.2.2.1.ext g) (And.intro (G1.out.2.2.2.1.ext g) (And.intro (G1.out.2.2.2.2.ext g) (h1))))))
  clear g h1 G1
  obtain ⟨m0, m1, m2, m3, m4, m5⟩ := G2.out.2.2.2.1.cells
  try simp only at m0 m1 m2 m3 m4 m5
  go_wp2_with fail
  refine (call_any _ m).mono ?_
  rintro e W3 ⟨f, rfl, hf, g⟩
  have G3 := hid0 (And.intro (G2.out.1.trans g) (And.intro (G2.out.2.1.ext g) (And.intro (G2.out.2.2.1.ext g) (And.intro (G2.out.2.2.2.1.ext g) (And.intro (G2.out.2.2.2.2.1.ext g) (And.intro (G2.out.2.2.2.2.2.ext g) (hf)))))))
  clear g hf m0 m1 m2 m3 m4 m5 G2
  go_wp2_with fail
  refine (TIntersection_any _ tb ub _ _ G3.out.2.2.2.2.1 G3.out.2.2.2.2.2.1 f _ G3.out.2.2.2.2.2.2).mono ?_
  rintro e W4 ⟨vb, rfl, h1, g⟩
  have G4 := hid0 (And.intro (G3.out.1.trans g) (And.intro (G3.out.2.1.ext g) (And.intro (G3.out.2.2.1.ext g) (And.intro (G3.out.2.2.2.1.ext g) (And.intro (G3.out.2.2.2.2.1.ext g) (And.intro (G3.out.2.2.2.2.2.1.ext g) (And.intro (G3.out.2.2.2.2.2.2.ext g) (h1))))))))
  clear g h1 G3
  go_wp2_with fail
  refine (pairs_any _ vb 0 _ G4.out.2.2.2.2.2.2.2.at).mono ?_
  rintro e W5 ⟨v1, rfl, o, g⟩
  have G5 := hid0 (And.intro (G4.out.1.trans g) (And.intro (G4.out.2.1.ext g) (And.intro (G4.out.2.2.1.ext g) (And.intro (G4.out.2.2.2.1.ext g) (And.intro (G4.out.2.2.2.2.1.ext g) (And.intro (G4.out.2.2.2.2.2.1.ext g) (And.intro (G4.out.2.2.2.2.2.2.1.ext g) (And.intro (G4.out.2.2.2.2.2.2.2.ext g) (OwnP.sl o)))))))))
  clear g o G4
  go_wp2_with fail
  refine (pairs_any _ tb 0 _ G5.out.2.2.2.2.1.at).mono ?_
  rintro e W6 ⟨v2, rfl, o, g⟩
  have G6 := hid0 (And.intro (G5.out.1.trans g) (And.intro (G5.out.2.1.ext g) (And.intro (G5.out.2.2.1.ext g) (And.intro (G5.out.2.2.2.1.ext g) (And.intro (G5.out.2.2.2.2.1.ext g) (And.intro (G5.out.2.2.2.2.2.1.ext g) (And.intro (G5.out.2.2.2.2.2.2.1.ext g) (And.intro (G5.out.2.2.2.2.2.2.2.1.ext g) (And.intro (G5.out.2.2.2.2.2.2.2.2.ext g) (OwnP.sl o))))))))))
  clear g o G5
  go_wp2_with fail
  refine (pairs_any _ ub 0 _ G6.out.2.2.2.2.2.1.at).mono ?_
  rintro e W7 ⟨v3, rfl, o, g⟩
  have G7 := hid0 (And.intro (G6.out.1.trans g) (And.intro (G6.out.2.1.ext g) (And.intro (G6.out.2.2.1.ext g) (And.intro (G6.out.2.2.2.1.ext g) (And.intro (G6.out.2.2.2.2.1.ext g) (And.intro (G6.out.2.2.2.2.2.1.ext g) (And.intro (G6.out.2.2.2.2.2.2.1.ext g) (And.intro (G6.out.2.2.2.2.2.2.2.1.ext g) (And.intro (G6.out.2.2.2.2.2.2.2.2.1.ext g) (And.intro (G6.out.2.2.2.2.2.2.2.2.2.ext g) (OwnP.sl o)))))))))))
  clear g o G6
  go_wp2
  go_ret3
  exact ⟨v1, v2, v3, rfl, G7.out.2.2.2.2.2.2.2.2.1, G7.out.2.2.2.2.2.2.2.2.2.1, G7.out.2.2.2.2.2.2.2.2.2.2, G7.out.2.2.2.2.2.2.2.1.ok, G7.out.1⟩

set_option maxRecDepth 100000 in
set_option maxHeartbeats 1000000 in
theorem IDifference_any (w : World) (v u : Value) (p q : Ps) (m : Mx) (hp : SlP w v p) (hq : SlP w u q) (lp : p.length ≤ 8796093022208) (lq : q.length ≤ 8796093022208) (kp : KeysOk p) (kq : KeysOk q) :
    Calls Try.prog 17 #[v, u, mxv m] w (Ret3 w (diffI (opOf m) (treeP p) (treeP q)) (treeP p) (treeP q)) := by
  have G0 := hid0 (And.intro (Kept.refl Non w) (And.intro hp hq))
  have HK := hid0 (And.intro kp kq)
  clear hp hq kp kq
  simp only [mxv]
  go_enter Try.func17, Try.ntmps17
  go_wp2_with fail
  refine (tree_any _ v p (G0.out.2.1.ext ((Kept.refl _ _).alloc _)) (by omega) HK.out.1).mono ?_
  rintro e W1 ⟨tb, rfl, _, h1, g⟩
  have G1 := hid0 (And.intro ((G0.out.1.alloc _).trans g) (And.intro ((G0.out.2.1.ext ((Kept.refl _ _).alloc _)).ext g) (And.intro ((G0.out.2.2.ext ((Kept.refl _ _).alloc _)).ext g) (And.intro ((MixAt.ext (m := m) ⟨alloc_new _ _⟩ g)) (h1)))))
  clear g h1 G0
  go_wp2_with fail
  refine (tree_any _ u q G1.out.2.2.1 (by omega) HK.out.2).mono ?_
  rintro e W2 ⟨ub, rfl, _, h1, g⟩
  have G2 := hid0 (And.intro (G1.out.1.trans g) (And.intro (G1.out.2.1.ext g) (And.intro (G1.out.2.2.1.ext g) (And.intro (G1.out.2.2.2.1.ext g) (And.intro (G1.out.2.2.2.2.ext g) (h1))))))
  clear g h1 G1
  obtain ⟨m0, m1, m2, m3, m4, m5⟩ := G2.out.2.2.2.1.cells
  try simp only at m0 m1 m2 m3 m4 m5
  go_wp2_with fail
  refine (call_any _ m).mono ?_
  rintro e W3 ⟨f, rfl, hf, g⟩
  have G3 := hid0 (And.intro (G2.out.1.trans g) (And.intro (G2.out.2.1.ext g) (And.intro (G2.out.2.2.1.ext g) (And.intro (G2.out.2.2.2.1.ext g) (And.intro (G2.out.2.2.2.2.1.ext g) (And.intro (G2.out.2.2.2.2.2.ext g) (hf)))))))
  clear g hf m0 m1 m2 m3 m4 m5 G2
  go_wp2_with fail
  refine (TDifference_any _ tb ub _ _ G3.out.2.2.2.2.1 G3.out.2.2.2.2.2.1 f _ G3.out.2.2.2.2.2.2).mono ?_
  rintro e W4 ⟨vb, rfl, h1, g⟩
  have G4 := hid0 (And.intro (G3.out.1.trans g) (And.intro (G3.out.2.1.ext g) (And.intro (G3.out.2.2.1.ext g) (And.intro (G3.out.2.2.2.1.ext g) (And.intro (G3.out.2.2.2.2.1.ext g) (And.intro (G3.out.2.2.2.2.2.1.ext g) (And.intro (G3.out.2.2.2.2.2.2.ext g) (h1))))))))
  clear g h1 G3
  go_wp2_with fail
  refine (pairs_any _ vb 0 _ G4.out.2.2.2.2.2.2.2.at).mono ?_
  rintro e W5 ⟨v1, rfl, o, g⟩
  have G5 := hid0 (And.intro (G4.out.1.trans g) (And.intro (G4.out.2.1.ext g) (And.intro (G4.out.2.2.1.ext g) (And.intro (G4.out.2.2.2.1.ext g) (And.intro (G4.out.2.2.2.2.1.ext g) (And.intro (G4.out.2.2.2.2.2.1.ext g) (And.intro (G4.out.2.2.2.2.2.2.1.ext g) (And.intro (G4.out.2.2.2.2.2.2.2.ext g) (OwnP.sl o)))))))))
  clear g o G4
  go_wp2_with fail
  refine (pairs_any _ tb 0 _ G5.out.2.2.2.2.1.at).mono ?_
  rintro e W6 ⟨v2, rfl, o, g⟩
  have G6 := hid0 (And.intro (G5.out.1.trans g) (And.intro (G5.out.2.1.ext g) (And.intro (G5.out.2.2.1.ext g) (And.intro (G5.out.2.2.2.1.ext g) (And.intro (G5.out.2.2.2.2.1.ext g) (And.intro (G5.out.2.2.2.2.2.1.ext g) (And.intro (G5.out.2.2.2.2.2.2.1.ext g) (And.intro (G5.out.2.2.2.2.2.2.2.1.ext g) (And.intro (G5.out.2.2.2.2.2.2.2.2.ext g) (OwnP.sl o))))))))))
  clear g o G5
  go_wp2_with fail
  refine (pairs_any _ ub 0 _ G6.out.2.2.2.2.2.1.at).mono ?_
  rintro e W7 ⟨v3, rfl, o, g⟩
  have G7 := hid0 (And.intro (G6.out.1.trans g) (And.intro (G6.out.2.1.ext g) (And.intro (G6.out.2.2.1.ext g) (And.intro (G6.out.2.2.2.1.ext g) (And.intro (G6.out.2.2.2.2.1.ext g) (And.intro (G6.out.2.2.2.2.2.1.ext g) (And.intro (G6.out.2.2.2.2.2.2.1.ext g) (And.intro (G6.out.2.2.2.2.2.2.2.1.ext g) (And.intro (G6.out.2.2.2.2.2.2.2.2.1.ext g) (And.intro (G6.out.2.2.2.2.2.2.2.2.2.ext g) (OwnP.sl o)))))))))))
  clear g o G6
  go_wp2
  go_ret3
  exact ⟨v1, v2, v3, rfl, G7.out.2.2.2.2.2.2.2.2.1, G7.out.2.2.2.2.2.2.2.2.2.1, G7.out.2.2.2.2.2.2.2.2.2.2, G7.out.2.2.2.2.2.2.2.1.ok, G7.out.1⟩

theorem no_any (w : World) : Calls Try.prog 23 #[] w (fun e w' => e = .returned (mxv mN) ∧ Kept Non w w') := by
  go_enter Try.func23, Try.ntmps23
  go_wp2
  exact bodyPost_ret (v := .agg #[.bool true, .int .i64 0, .int .i64 0, .int .i64 0, .int .i64 0, .int .i64 0]) (by simp [results, Try.results23, go_sem]) rfl ⟨rfl, (Kept.refl _ _).alloc _⟩

theorem left_any (w : World) : Calls Try.prog 24 #[] w (fun e w' => e = .returned (mxv mL) ∧ Kept Non w w') := by
  go_enter Try.func24, Try.ntmps24
  go_wp2
  exact bodyPost_ret (v := .agg #[.bool false, .int .i64 1, .int .i64 0, .int .i64 0, .int .i64 0, .int .i64 0]) (by simp [results, Try.results24, go_sem]) rfl ⟨rfl, (Kept.refl _ _).alloc _⟩

theorem right_any (w : World) : Calls Try.prog 25 #[] w (fun e w' => e = .returned (mxv mR) ∧ Kept Non w w') := by
  go_enter Try.func25, Try.ntmps25
  go_wp2
  exact bodyPost_ret (v := .agg #[.bool false, .int .i64 0, .int .i64 1, .int .i64 0, .int .i64 0, .int .i64 0]) (by simp [results, Try.results25, go_sem]) rfl ⟨rfl, (Kept.refl _ _).alloc _⟩

theorem sum_any (w : World) : Calls Try.prog 31 #[] w (fun e w' => e = .returned (mxv mS) ∧ Kept Non w w') := by
  go_enter Try.func31, Try.ntmps31
  go_wp2
  exact bodyPost_ret (v := .agg #[.bool false, .int .i64 1, .int .i64 1, .int .i64 0, .int .i64 0, .int .i64 0]) (by simp [results, Try.results31, go_sem]) rfl ⟨rfl, (Kept.refl _ _).alloc _⟩

def posB (ps : Ps) : Bool := ps.all fun a => decide (1 ≤ a.2) && decide (a.2 ≤ 1099511627776)
theorem posB_pos {ps : Ps} (h : posB ps = true) : Pos 1099511627776 (treeP ps) := fun k d hk => by
  have := List.all_eq_true.1 h (k, d) (treeP_mem (look_mem hk))
  simpa using this
theorem positive_any (w : World) (v : Value) (ps : Ps) (h : SlP w v ps) (hl : ps.length ≤ 8796093022208) :
    Calls Try.prog 30 #[v] w fun e w' => e = .returned (.bool (posB ps)) ∧ Kept Non w w' := by
  obtain ⟨a, cap, rfl⟩ := h.form
  have HS := hid0 h
  clear h
  go_enter Try.func30, Try.ntmps30
  go_wp2
  go_loopg [7] (ps.length) (fun n i wr => ∃ k : Nat, k + n = ps.length ∧ i = .int .i64 k ∧ Kept Non w wr ∧ ∀ p ∈ ps.take k, (decide (1 ≤ p.2) && decide (p.2 ≤ 1099511627776)) = true)
  case atStart => exact ⟨0, by simp, rfl, Kept.refl _ _, by simp⟩
  case round =>
    obtain ⟨k, hk, rfl, hK, hall⟩ := hrel
    have HK := hid0 (And.intro hK hall)
    clear hall
    by_cases hlt : k < ps.length
    · obtain ⟨b, off, rfl, _, c0, c1⟩ := HS.out.pair hK k hlt
      clear hK
      by_cases hx : ps[k].2 < 1
      · go_wp2
        go_ret
        refine ⟨?_, HK.out.1.alloc _⟩
        have : posB ps = false := by
          rw [posB, List.all_eq_false]
          exact ⟨ps[k], List.getElem_mem hlt, by simp; omega⟩
        rw [this]; rfl
      · by_cases hy : 1099511627776 < ps[k].2
        · go_wp2
          go_ret
          refine ⟨?_, HK.out.1.alloc _⟩
          have : posB ps = false := by
            rw [posB, List.all_eq_false]
            exact ⟨ps[k], List.getElem_mem hlt, by simp; omega⟩
          rw [this]; rfl
        · have HX : Hid ((decide (1 ≤ ps[k].2) && decide (ps[k].2 ≤ 1099511627776)) = true) := by show _ = _; simp; omega
          go_wp2
          go_roundg (gk - 1)
          case measure => omega
          case rel => exact ⟨k + 1, by omega, by go_num, HK.out.1.alloc _, all_take_succ hlt HK.out.2 HX.out⟩
    · clear hK
      go_wp2
      go_ret
      refine ⟨?_, HK.out.1⟩
      have : posB ps = true := by
        rw [posB, List.all_eq_true]
        intro p hp
        exact HK.out.2 p (by rw [List.take_of_length_le (by omega)]; exact hp)
      rw [this]; rfl

/-- pairs of one of two lists with the same keys -/
structure Either2 (l f s : Ps) : Prop where
  l1 : l.length = f.length
  l2 : l.length = s.length
  at2 : ∀ i (h : i < l.length) (h1 : i < f.length) (h2 : i < s.length), l[i].1 = f[i].1 ∧ (l[i].2 = f[i].2 ∨ l[i].2 = s[i].2)
set_option maxRecDepth 100000 in
theorem eitherOf_any (w : World) (v u t : Value) (l f s : Ps) (h : SlP w v l) (h' : SlP w u f) (h2 : SlP w t s) (hl : l.length ≤ 8796093022208) (he : Either2 l f s) :
    Calls Try.prog 26 #[v, u, t] w fun e w' => e = .returned (.bool true) ∧ Kept Non w w' := by
  obtain ⟨a, cap, rfl⟩ := h.form
  obtain ⟨a', cap', rfl⟩ := h'.form
  obtain ⟨a2, cap2, rfl⟩ := h2.form
  have HS := hid0 (And.intro h (And.intro h' h2))
  have b1 : ((l.length : Int) != (f.length : Int)) = false := by simp [he.l1]
  have b2 : ((l.length : Int) != (s.length : Int)) = false := by simp [he.l2]
  have hlen := And.intro he.l1 he.l2
  have HE := hid0 he
  clear h h' h2 he
  go_enter Try.func26, Try.ntmps26
  go_wp2
  go_loopg [23] (l.length) (fun n i wr => ∃ k : Nat, k + n = l.length ∧ i = .int .i64 k ∧ Kept Non w wr)
  case atStart => exact ⟨0, by simp, rfl, Kept.refl _ _⟩
  case round =>
    obtain ⟨k, hk, rfl, hK⟩ := hrel
    have HK := hid0 hK
    by_cases hlt : k < l.length
    · have hlt1 : k < f.length := by omega
      have hlt2 : k < s.length := by omega
      obtain ⟨e1, e2⟩ := HE.out.at2 k hlt hlt1 hlt2
      obtain ⟨b, off, rfl, hb, c0, c1⟩ := HS.out.1.pair hK k hlt
      obtain ⟨b', off', rfl, hb', d0, d1⟩ := HS.out.2.1.pair hK k hlt1
      obtain ⟨b3, off3, rfl, hb3, f0, f1⟩ := HS.out.2.2.pair hK k hlt2
      have n1 : b' ≠ wr.heap.size := Nat.ne_of_lt (Nat.lt_of_lt_of_le hb' hK.size)
      have n2 : b3 ≠ wr.heap.size := Nat.ne_of_lt (Nat.lt_of_lt_of_le hb3 hK.size)
      clear hK
      have hi0 : (0 : Int) ≤ (k : Int) := Int.natCast_nonneg _
      have hi1 : (k : Int) < (f.length : Int) := by omega
      have hi2 : (k : Int) < (s.length : Int) := by omega
      have x1 : (l[k].1 != f[k].1) = false := by simp [e1]
      have HE2 := hid0 e2
      clear e1 e2
      go_wp2_with fail
      refine wp_gen (fun W => W.cell? ⟨wr.heap.size, 0, none⟩ = some (.int .i32 l[k].1) ∧ W.cell? ⟨wr.heap.size, 1, none⟩ = some (.int .i64 l[k].2) ∧ W.cell? ⟨b', off' + k * 2, none⟩ = some (.int .i32 f[k].1) ∧ W.cell? ⟨b', off' + k * 2 + 1, none⟩ = some (.int .i64 f[k].2) ∧ W.cell? ⟨b3, off3 + k * 2 + 1, none⟩ = some (.int .i64 s[k].2) ∧ Kept Non w W) ⟨?_, ?_, ?_, ?_, ?_, HK.out.alloc _⟩ ?_
      · rw [cell_of (alloc_new wr _)]; rfl
      · rw [cell_of (alloc_new wr _)]; rfl
      · rw [World.cell?_alloc_old _ _ _ n1]; exact d0
      · rw [World.cell?_alloc_old _ _ _ n1]; exact d1
      · rw [World.cell?_alloc_old _ _ _ n2]; exact f1
      rintro W ⟨q0, q1, q2, q3, q4, hKW⟩
      have HW := hid0 hKW
      clear hKW c0 c1 d0 d1 f0 f1
      by_cases hd : l[k].2 = f[k].2
      · have x2 : (l[k].2 != f[k].2) = false := by simp [hd]
        clear hd
        go_quiet (fail)
        go_wp2
        go_roundg (gk - 1)
        case measure => omega
        case rel => exact ⟨k + 1, by omega, by go_num, HW.out.drewN _⟩
      · have x2 : (l[k].2 != f[k].2) = true := by simp [hd]
        have x3 : (l[k].2 != s[k].2) = false := by
          rcases HE2.out with e2 | e2
          · exact absurd e2 hd
          · simp [e2]
        clear hd
        go_quiet (fail)
        go_wp2
        go_roundg (gk - 1)
        case measure => omega
        case rel => exact ⟨k + 1, by omega, by go_num, HW.out.drewN _⟩
    · clear hK
      go_wp2
      go_ret
      exact ⟨rfl, HK.out⟩

end Go.Proofs.Ytdmfnlhbddejiaa
