/- The walk of FnInserts. -/
import Derived.Test.YtdmfnlhbddejiaaImplU
import Derived.Test.YtdmfnlhbddejiaaVisit
namespace Go.Proofs.Ytdmfnlhbddejiaa
open Go.RowKit

theorem run_app_nil (w : World) {t ty E sz bytes base : Nat} (hty : ElTy t E sz bytes) {v : Value} {n : Nat} {xs : List Value} (hown : w.ownsRow base E sz v n xs) (c : Nat) : (Builtin.append_ #[t, t] ty #[v, .slice none 0 c]).run Try.prog w = .ok v w := by
  obtain ⟨i, z, h1, h2, _⟩ := hty.ex
  rcases hown.2 with ⟨rfl, rfl⟩ | ⟨g, cap, cur, rfl, _, _, hnc, _⟩
  · simp [Builtin.append_, run_underlying h1, sizeOf, typeInfo, h2, Builtin.lenOf, Builtin.firstCells]
  · simp [Builtin.append_, run_underlying h1, sizeOf, typeInfo, h2, Builtin.lenOf, Builtin.firstCells, hnc, storeCells]
theorem flat_len {α : Type} {sz : Nat} {enc : α → List Value} (henc : ∀ x, (enc x).length = sz) : ∀ ys : List α, (ys.flatMap enc).length = ys.length * sz
  | [] => by simp
  | y :: ys => by rw [List.flatMap_cons, List.length_append, henc, flat_len henc ys, List.length_cons, Nat.succ_mul]; omega
/-- APPEND of a whole slice that came in, nil too, to a slice of the call's own -/
theorem wpList_appAll {α : Type} {sz bytes t E : Nat} {enc : α → List Value} {ops : Array Oper} {rest : List Oper} {o : Oper} {a : Act} {w : World} {Q : Exit → Act → World → Prop} (hgd : o.guard = none) (s x : Operand)
    (ho : o.op = .call { callee := .builtin .append, args := #[s, x], argTypes := #[t, t] }) (hty : ElTy t E sz bytes) (henc : ∀ x : α, (enc x).length = sz ∧ ∀ u ∈ enc x, u.oneCell' = true)
    (base : Nat) (v u : Value) (xs ys : List α) (hs : a.eval s = v) (hown : Own sz enc E base w v xs) (hx : a.eval x = u) (hy : Sl sz enc w u ys)
    (hlen : (xs.length + ys.length) * bytes ≤ 140737488355328) (hpos : 0 < bytes) (hbase : base ≤ w.heap.size)
    (h : ∀ v' w', Own sz enc E base w' v' (xs ++ ys) → Kept (fun b => v.ownBlock = some b) w w' → wpList Try.prog ops Q rest (a.put o.dst v') w') : wpList Try.prog ops Q (o :: rest) a w := by
  obtain ⟨A, cap, rfl, hc⟩ := hy.ex
  cases A with
  | none =>
    have hn : ys = [] := by
      cases ys with
      | nil => rfl
      | cons y ys => obtain ⟨b, off, e, _⟩ := hc 0 y rfl; cases e
    subst hn
    refine wpList_plain hgd fun K hK => ?_
    have hrun := run_app_nil w (ty := o.type) hty hown.own cap
    unfold Oper.wp
    simp only [execOp, ho, resolve, invoke, builtin, Sem.run_bind, Sem.run_pure, Result.andThen_ok, List.map_toArray, List.map_cons, List.map_nil, hs, hx, List.length_nil, hrun]
    exact hK _ _ (h v w (by rw [List.append_nil]; exact hown) (Kept.refl _ _))
  | some ad =>
    obtain ⟨i, z, h1, h2, h3, h4, h5, h6, h7⟩ := hty.ex
    have hl : xs.length + ys.length ≤ maxLen := by
      have : (xs.length + ys.length) * 1 ≤ (xs.length + ys.length) * bytes := Nat.mul_le_mul_left _ hpos
      unfold maxLen; omega
    refine wpList_append_own w hgd s x t ho base E i z sz bytes h1 h2 h3 h4 h5 h6 h7 v xs.length (xs.flatMap enc) hs hown.own ad ys.length cap (ys.flatMap enc) hx (flat_len (fun q => (henc q).1) ys) (fun j c hj => ?_) (fun c hcm => ?_) hl hlen hbase ?_
    · have hjl : j < ys.length * sz := by
        rw [← flat_len (fun q => (henc q).1) ys]
        exact (List.getElem?_eq_some_iff.1 hj).1
      have hq : j / sz < ys.length := (Nat.div_lt_iff_lt_mul h7).2 hjl
      obtain ⟨b, off, e, _, hcell⟩ := hc (j / sz) ys[j / sz] (List.getElem?_eq_getElem hq)
      have hm := Nat.mod_lt j h7
      have hd : j / sz * sz + j % sz = j := Nat.div_add_mod' j sz
      have hg := flat_get (fun q => (henc q).1) ys (j / sz) ys[j / sz] (List.getElem?_eq_getElem hq) (j % sz) hm
      rw [hd, hj] at hg
      have := hcell (j % sz) c hg.symm
      cases e
      rw [Nat.add_assoc, hd] at this
      unfold Addr.add
      split
      · rename_i e0; subst e0; exact this
      · simpa using this
    · obtain ⟨y, _, hy2⟩ := List.mem_flatMap.1 hcm
      exact (henc y).2 c hy2
    · intro v' w' g1 g2 _
      exact h v' w' ⟨by simpa using g1⟩ ⟨g2.os, g2.tape, g2.output, g2.size, fun k hk hn => g2.block k hk (fun e => hn e.symm)⟩
set_option maxRecDepth 100000 in
set_option maxHeartbeats 1000000 in
theorem FnInserts_walk (w : World) (vp : Value) (p : Ps) (hp : SlP w vp p) (lp : p.length ≤ 8796093021952) (wp : KeysW p) (_dp : DataR p) (bp : p.length ≤ 1048576) (vq : Value) (q : Ps) (hq : SlP w vq q) (lq : q.length ≤ 8796093021952) (wq : KeysW q) (dq : DataR q) (bq : q.length ≤ 1048576) :
    Calls Try.prog 9 #[vp, vq] w fun e w' => e = .returned (.bool true) ∧ Kept Non w w' := by
  obtain ⟨pa, pcc, rfl⟩ := hp.form
  obtain ⟨qa, qcc, rfl⟩ := hq.form
  have HWp := hid0 wp
  have HWq := hid0 wq
  have HRq := hid0 (Rg.tree dq)
  have HW2 : Hid (KeysW (p ++ q)) := fun a ha => (List.mem_append.1 ha).elim (wp a) (wq a)
  have hl2 : (p ++ q).length = p.length + q.length := List.length_append
  have HLx : Hid ((treeP (p ++ q)).length ≤ 4294967296) := treeP_len0 HW2.out
  have G0 := hid0 (And.intro (Kept.refl Non w) (And.intro hp hq))
  clear hp hq wp wq dq
  cases hkp : keyedB p with
  | false =>
    have HKp := hid0 hkp
    clear hkp
    go_enter Try.func9, Try.ntmps9
    go_wp2_with fail
    refine (keyed_any _ _ p G0.out.2.1 (by omega)).mono ?_
    rintro e W1 ⟨rfl, g⟩
    have G1 := hid0 (And.intro (G0.out.1.trans g) (And.intro (G0.out.2.1.ext g) (G0.out.2.2.ext g)))
    clear g G0
    rw [HKp.out]
    go_wp2
    go_ret
    exact ⟨rfl, G1.out.1⟩
  | true =>
    have HKp := hid0 hkp
    clear hkp
    cases hkq : keyedB q with
    | false =>
      have HKq := hid0 hkq
      clear hkq
      go_enter Try.func9, Try.ntmps9
      go_wp2_with fail
      refine (keyed_any _ _ p G0.out.2.1 (by omega)).mono ?_
      rintro e W1 ⟨rfl, g⟩
      have G1 := hid0 (And.intro (G0.out.1.trans g) (And.intro (G0.out.2.1.ext g) (G0.out.2.2.ext g)))
      clear g G0
      rw [HKp.out]
      go_wp2_with fail
      refine (keyed_any _ _ q G1.out.2.2 (by omega)).mono ?_
      rintro e W2 ⟨rfl, g⟩
      have G2 := hid0 (And.intro (G1.out.1.trans g) (And.intro (G1.out.2.1.ext g) (G1.out.2.2.ext g)))
      clear g G1
      rw [HKq.out]
      go_wp2
      go_ret
      exact ⟨rfl, G2.out.1⟩
    | true =>
      have HKq := hid0 hkq
      clear hkq
      have HOK2 : Hid (KeysOk (p ++ q)) := fun a ha => (List.mem_append.1 ha).elim (HWp.out.ok HKp.out a) (HWq.out.ok HKq.out a)
      go_enter Try.func9, Try.ntmps9
      go_wp2_with fail
      refine (keyed_any _ _ p G0.out.2.1 (by omega)).mono ?_
      rintro e W1 ⟨rfl, g⟩
      have G1 := hid0 (And.intro (G0.out.1.trans g) (And.intro (G0.out.2.1.ext g) (G0.out.2.2.ext g)))
      clear g G0
      rw [HKp.out]
      go_wp2_with fail
      refine (keyed_any _ _ q G1.out.2.2 (by omega)).mono ?_
      rintro e W2 ⟨rfl, g⟩
      have G2 := hid0 (And.intro (G1.out.1.trans g) (And.intro (G1.out.2.1.ext g) (G1.out.2.2.ext g)))
      clear g G1
      rw [HKq.out]
      go_wp2_with (at_builtin; refine wpList_appAll rfl (.tmp 17) (.tmp 18) rfl tyP pc_enc W2.heap.size _ _ ([] : Ps) p rfl (Own.nil _) rfl G2.out.2.1 (by simp; omega) (by decide) (Nat.le_refl _) ?_)
      intro v3 W3 o3 g3
      have hk3 : Kept Non W2 W3 := (Kept.refl Non W2).trans' g3 (fun i hi e => by simp [Value.ownBlock] at e)
      obtain ⟨a3, c3, rfl⟩ := (OwnP.sl o3).form
      have G3 := hid0 (And.intro (G2.out.1.trans hk3) (And.intro (G2.out.2.1.ext hk3) (And.intro (G2.out.2.2.ext hk3) (And.intro o3 hk3))))
      have G22 := hid0 G2.out
      clear g3 hk3 o3 G2
      go_wp2_with (at_builtin; refine wpList_appAll rfl (.tmp 20) (.tmp 21) rfl tyP pc_enc W2.heap.size _ _ p q rfl G3.out.2.2.2.1 rfl G3.out.2.2.1 (by omega) (by decide) (G3.out.2.2.2.2.size) ?_)
      intro v4 W4 o4 g4
      have hk4 : Kept Non W2 W4 := G3.out.2.2.2.2.trans' g4 (fun i hi e => by have := G3.out.2.2.2.1.block i e; omega)
      obtain ⟨a4, c4, hv4⟩ : ∃ a c, v4 = .slice a (p.length + q.length) c := by
        obtain ⟨a, c, e⟩ := (OwnP.sl o4).form
        exact ⟨a, c, by rw [e, hl2]⟩
      subst hv4
      have G4 := hid0 (And.intro (G22.out.1.trans hk4) (And.intro (G22.out.2.1.ext hk4) (And.intro (G22.out.2.2.ext hk4) (OwnP.sl o4))))
      clear g4 hk4 o4 G3 G22
      go_wp2_with fail
      refine (right_any _).mono ?_
      rintro e W5 ⟨rfl, g⟩
      have G5 := hid0 (And.intro (G4.out.1.trans g) (And.intro (G4.out.2.1.ext g) (And.intro (G4.out.2.2.1.ext g) (G4.out.2.2.2.ext g))))
      clear g G4
      go_wp2_with fail
      refine (IUnion_any _ _ _ p q mR G5.out.2.1 G5.out.2.2.1 (by omega) (by omega) (HWp.out.ok HKp.out) (HWq.out.ok HKq.out)).mono ?_
      rintro e W6 ⟨xv, cv, dv0, rfl, s1, s2, s3, s4, g⟩
      rw [inserts HRq.out] at s1
      obtain ⟨xa, xc, rfl⟩ := s1.form
      have G6 := hid0 (And.intro (G5.out.1.trans g) (And.intro (G5.out.2.1.ext g) (And.intro (G5.out.2.2.1.ext g) (And.intro (G5.out.2.2.2.ext g) (s1)))))
      clear g s1 s2 s3 s4 G5
      go_wp2_with fail
      refine (Visit_any _ _ (p ++ q) G6.out.2.2.2.1 (by omega) HOK2.out).mono ?_
      rintro e W7 ⟨vv, rfl, o, g⟩
      have G7 := hid0 (And.intro (G6.out.1.trans g) (And.intro (G6.out.2.1.ext g) (And.intro (G6.out.2.2.1.ext g) (And.intro (G6.out.2.2.2.1.ext g) (And.intro (G6.out.2.2.2.2.ext g) (OwnP.sl o))))))
      clear g o G6
      go_wp2_with fail
      refine (Same_any _ _ _ (treeP (p ++ q)) (treeP (p ++ q)) G7.out.2.2.2.2.1 G7.out.2.2.2.2.2 (by have := HLx.out; omega)).mono ?_
      rintro e W8 ⟨rfl, g⟩
      have G8 := hid0 (And.intro (G7.out.1.trans g) (And.intro (G7.out.2.1.ext g) (And.intro (G7.out.2.2.1.ext g) (And.intro (G7.out.2.2.2.1.ext g) (And.intro (G7.out.2.2.2.2.1.ext g) (G7.out.2.2.2.2.2.ext g))))))
      clear g G7
      rw [decide_eq_true (rfl : treeP (p ++ q) = treeP (p ++ q))]
      go_wp2_with fail
      refine (Tree_any _ _ (p ++ q) G8.out.2.2.2.1 (by omega) HW2.out).mono ?_
      rintro e W9 ⟨tv, rfl, o, g⟩
      obtain ⟨ta, tc, rfl⟩ := (OwnP.sl o).form
      have G9 := hid0 (And.intro (G8.out.1.trans g) (And.intro (G8.out.2.1.ext g) (And.intro (G8.out.2.2.1.ext g) (And.intro (G8.out.2.2.2.1.ext g) (And.intro (G8.out.2.2.2.2.1.ext g) (G8.out.2.2.2.2.2.ext g))))))
      clear g o G8
      go_wp2
      go_ret
      exact ⟨rfl, G9.out.1⟩

end Go.Proofs.Ytdmfnlhbddejiaa
