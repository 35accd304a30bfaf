/- node.equals, T.Equals. -/
import Derived.Test.YtehegllgaiehfaaIt4
import Derived.Test.YtehegllgaiehfaaFnd
namespace Go.Proofs.Ytehegllgaiehfaa
open Go.RowKit

theorem neq_held (a d : Int) (w : World) : (binOp .neq 20 (.iface 3 (.int .i64 a)) (.iface 3 (.int .i64 d))).run Try.prog w = .ok (.bool (!(a == d))) w := by
  have hu : Try.prog.underlying 3 = some (.int .i64) := by kernel_rfl
  obtain ⟨i, hi, hc⟩ : ∃ i, Try.prog.info? 3 = some i ∧ i.comparable = true := by
    have h : (Try.prog.info? 3).map (fun i => i.comparable) = some true := by kernel_rfl
    cases hh : Try.prog.info? 3 with
    | none => rw [hh] at h; cases h
    | some i => rw [hh] at h; exact ⟨i, rfl, by simpa using h⟩
  have h1 : ∀ e : Nat, (Op.equalIn (e + 1) 3 (.int .i64 a) (.int .i64 d)).run Try.prog w = .ok (a == d) w := fun e => by simp [Op.equalIn, run_underlying hu]
  have h2 : ∀ e : Nat, (Op.equalIn (e + 2) 20 (.iface 3 (.int .i64 a)) (.iface 3 (.int .i64 d))).run Try.prog w = .ok (a == d) w := fun e => by
    rw [Op.equalIn]
    simp [run_underlying und20, typeInfo, hi, hc, h1]
  simp only [binOp]
  simp [Op.equal, Op.maxDepth, h2 9998]

/-- a tree is what lies in memory at its root -/
theorem In.inj {w : World} : ∀ {A B : Tr}, In w A → In w B → A.ptr = B.ptr → A = B
  | .nil, .nil, _, _, _ => rfl
  | .nil, .node _ _ _ _ _, _, _, h => by simp [Deep.BT.ptr] at h
  | .node _ _ _ _ _, .nil, _, _, h => by simp [Deep.BT.ptr] at h
  | .node b o a l r, .node b' o' a' l' r', hA, hB, h => by
    simp only [Deep.BT.ptr, Value.pointer.injEq, Option.some.injEq, Addr.mk.injEq] at h
    obtain ⟨rfl, rfl, _⟩ := h
    have h1 := hA.2.1
    rw [hB.2.1] at h1
    simp only [nodeObj, Option.some.injEq, Obj.cells.injEq, List.toArray_eq_iff, List.cons.injEq] at h1
    simp at h1
    obtain ⟨e1, e2, e3, e4, e5⟩ := h1
    obtain rfl := In.inj hA.2.2.1 hB.2.2.1 e1.symm
    obtain rfl := In.inj hA.2.2.2 hB.2.2.2 e2.symm
    obtain ⟨k, d, h⟩ := a
    obtain ⟨k', d', h'⟩ := a'
    simp only at e3 e4 e5
    subst e3; subst e4; subst e5
    rfl
theorem en_inj {p q : Int × Int} (h : en p = en q) : p = q := by
  simp only [en, Prod.mk.injEq, Value.iface.injEq, Value.int.injEq, true_and] at h
  exact Prod.ext h.1 h.2
theorem map_en_inj : ∀ {ps qs : List (Int × Int)}, ps.map en = qs.map en → ps = qs
  | [], [], _ => rfl
  | [], _ :: _, h => by simp at h
  | _ :: _, [], h => by simp at h
  | p :: ps, q :: qs, h => by
    rw [List.map_cons, List.map_cons, List.cons.injEq] at h
    rw [en_inj h.1, map_en_inj h.2]

end Go.Proofs.Ytehegllgaiehfaa
