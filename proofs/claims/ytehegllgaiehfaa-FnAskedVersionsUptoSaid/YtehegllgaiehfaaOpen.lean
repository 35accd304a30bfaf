/- How the arguments of the laws are read: a slice of pairs, numbers; and the frame of every row's proof. -/
import Derived.Test.YtehegllgaiehfaaLoop2
import Derived.ProofKit
import Derived.OpenShut
import Derived.ChangeOld
import Derived.Below
import Derived.SizedLaws
import Derived.Deep.SlicePairs
namespace Go.Proofs.Ytehegllgaiehfaa
open Go.ChangeShapes Go.WideShapes Go.ChangeAt Go.RowKit Go.Deep

theorem ownKn : ownKnob Try.prog.godebug = none := by kernel_rfl
theorem laidOutT : laidOutB Try.prog = true := by kernel_rfl

theorem und29 : Try.prog.underlying 22 = some (.slice 27) := by kernel_rfl
theorem und64 : ∃ f0 f1 : Field, Try.prog.underlying 27 = some (.struct #[f0, f1]) ∧ f0.offset = 0 ∧ f1.offset = 1 ∧ f0.type = 21 ∧ f1.type = 3 := by
  refine ⟨_, _, Try.underlying27, rfl, rfl, rfl, rfl⟩

theorem open_P {H : Type} {enc : TypeId × Value → H} {W : World} {a : Option Addr} {len cap : Nat} {d : DataW H} {p : List MemPlace}
    (h : DataW.Trod enc Try.prog W 0 (fun _ => true) true 22 (.slice a len cap) d p) :
    ∃ ps : List (Int × Int), SlP W (.slice a len cap) ps ∧ KeysW ps ∧ DataR ps ∧ ((d = .nil ∧ ps = []) ∨ ∃ elems spare, d = .slice elems spare ∧ elems.length = ps.length) := by
  obtain ⟨fuel, hf⟩ := h
  obtain ⟨f0, f1, hu, o0, o1, t0, t1⟩ := und64
  have c0 : Try.prog.cellsOf f0.type = 1 := by rw [t0]; kernel_rfl
  have c1 : Try.prog.cellsOf f1.type = 1 := by rw [t1]; kernel_rfl
  rcases open_slice_pairs und29 hu (by kernel_rfl) o0 o1 c0 c1 hf with ⟨hcs, hx⟩ | ⟨ad, l, c, m, n, V0, V1, D0, D1, P0, P1, hcs, _, hlc, hcm, hm, hx, hcell⟩
  · simp [Value.cells] at hcs
    obtain ⟨rfl, rfl, rfl⟩ := hcs
    simp only [Prod.mk.injEq] at hx
    exact ⟨[], Sl.nil _, (fun p hp => by cases hp), (fun p hp => by cases hp), .inl ⟨hx.1, rfl⟩⟩
  · simp [Value.cells] at hcs
    obtain ⟨rfl, rfl, rfl⟩ := hcs
    simp only [Prod.mk.injEq] at hx
    simp at hm
    subst hm
    have each : ∀ i, i < len → V0 i = .int .i32 (intOf (V0 i)) ∧ V1 i = .int .i64 (intOf (V1 i)) ∧ (-2147483648 ≤ intOf (V0 i) ∧ intOf (V0 i) ≤ 2147483647) ∧ (-9223372036854775808 ≤ intOf (V1 i) ∧ intOf (V1 i) ≤ 9223372036854775807) := fun i hi => by
      obtain ⟨_, _, g0, g1⟩ := hcell i (by omega)
      rw [t0] at g0
      rw [t1] at g1
      obtain ⟨x, e0, _, wx⟩ := DataW.trod_int Try.underlying21 g0
      obtain ⟨y, e1, _, wy⟩ := DataW.trod_int Try.underlying3 g1
      simp at e0 e1
      rw [e0, e1]
      simp [Lit.wf, IntKind.min, IntKind.max, IntKind.signed, IntKind.bits] at wx wy
      exact ⟨rfl, rfl, by simpa [intOf] using wx, by simpa [intOf] using wy⟩
    refine ⟨(List.range len).map fun i => (intOf (V0 i), intOf (V1 i)), ⟨some ad, _, by rw [List.length_map, List.length_range], fun i x hx => ?_⟩, fun q hq => ?_, fun q hq => ?_, .inr ⟨_, _, hx.1, by simp⟩⟩
    · have hi : i < len := by
        have := (List.getElem?_eq_some_iff.1 hx).1
        simpa using this
      rw [List.getElem?_map, List.getElem?_range hi] at hx
      simp at hx
      subst hx
      obtain ⟨e0, e1, _⟩ := each i hi
      obtain ⟨g0, g1, _⟩ := hcell i (by omega)
      obtain ⟨b, off, spot⟩ := ad
      have hspot : spot = none := by
        have := World.cell?_spot (w := W) (hcell 0 (by omega)).1
        simpa [Addr.add] using this
      subst hspot
      rw [add_plain] at g0 g1
      refine ⟨b, off, rfl, World.block_lt_of_cell? _ _ g0, fun j c hj => ?_⟩
      match j, hj with
      | 0, hj => simp [pc] at hj; subst hj; rw [← e0]; simpa using g0
      | 1, hj => simp [pc] at hj; subst hj; rw [← e1]; simpa [Nat.add_assoc] using g1
    · obtain ⟨i, hi, rfl⟩ := List.mem_map.1 hq
      exact (each i (List.mem_range.1 hi)).2.2.1
    · obtain ⟨i, hi, rfl⟩ := List.mem_map.1 hq
      exact (each i (List.mem_range.1 hi)).2.2.2

theorem len_P {H : Type} {ts : List TypeId} {ds : List (DataW H)} (h : (DataW.weightsEach Try.prog ts ds).all (· ≤ reachBytes) = true) {j : Nat} (ht : ts[j]? = some 22) {d : DataW H} (hd : ds[j]? = some d) {ps : List (Int × Int)}
    (hx : (d = .nil ∧ ps = []) ∨ ∃ elems spare, d = .slice elems spare ∧ elems.length = ps.length) : ps.length ≤ 8796093021952 := by
  rcases hx with ⟨_, rfl⟩ | ⟨elems, spare, rfl, he⟩
  · simp
  · have := sized_slice h ht hd und29
    have hb : Try.prog.bytesOf 27 = 16 := by kernel_rfl
    rw [hb] at this
    unfold reachBytes at this
    omega

theorem wf32 {n : Int} (h : (Lit.int .i32 n).wf = true) : -2147483648 ≤ n ∧ n ≤ 2147483647 := by simpa [Lit.wf, IntKind.min, IntKind.max, IntKind.signed, IntKind.bits] using h
theorem wf64 {n : Int} (h : (Lit.int .i64 n).wf = true) : -9223372036854775808 ≤ n ∧ n ≤ 9223372036854775807 := by simpa [Lit.wf, IntKind.min, IntKind.max, IntKind.signed, IntKind.bits] using h

end Go.Proofs.Ytehegllgaiehfaa
