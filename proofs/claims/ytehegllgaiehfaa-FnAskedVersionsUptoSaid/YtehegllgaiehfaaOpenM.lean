/- How a Mix is read, as an argument of a law. -/
import Derived.Test.YtehegllgaiehfaaOpen
import Derived.Test.YtehegllgaiehfaaMix
import Derived.Test.YtehegllgaiehfaaPl
namespace Go.Proofs.Ytehegllgaiehfaa
open Go.ChangeShapes Go.WideShapes Go.ChangeAt Go.RowKit Go.Deep

theorem undM : ∃ f0 f1 f2 f3 f4 f5 : Field, Try.prog.underlying 24 = some (.struct #[f0, f1, f2, f3, f4, f5]) ∧ (f0.offset = 0 ∧ f1.offset = 1 ∧ f2.offset = 2 ∧ f3.offset = 3 ∧ f4.offset = 4 ∧ f5.offset = 5) ∧ f0.type = 4 ∧ f1.type = 3 ∧ f2.type = 3 ∧ f3.type = 3 ∧ f4.type = 3 ∧ f5.type = 3 := by
  refine ⟨_, _, _, _, _, _, Try.underlying24, ⟨rfl, rfl, rfl, rfl, rfl, rfl⟩, rfl, rfl, rfl, rfl, rfl, rfl⟩
theorem cellsB : Try.prog.cellsOf 4 = 1 := by kernel_rfl
theorem cellsI : Try.prog.cellsOf 3 = 1 := by kernel_rfl
theorem cellsM : Try.prog.cellsOf 24 = 6 := by kernel_rfl
theorem list6 {α : Type} {cs : List α} (h : cs.length = 6) : ∃ a b c d e f, cs = [a, b, c, d, e, f] := by
  match cs, h with
  | [a, b, c, d, e, f], _ => exact ⟨a, b, c, d, e, f, rfl⟩
set_option maxRecDepth 100000 in
theorem mix_cells {H : Type} {enc : TypeId × Value → H} {W : World} {fuel : Nat} {cs : List Value} {x : DataW H × List MemPlace} (h : DataW.trod enc Try.prog W 0 (fun _ => true) true fuel 24 cs = some x) :
    ∃ m : Mx, cs = [.bool m.no, .int .i64 m.a, .int .i64 m.b, .int .i64 m.c, .int .i64 m.md, .int .i64 m.rs] := by
  obtain ⟨f0, f1, f2, f3, f4, f5, hu, ⟨o0, o1, o2, o3, o4, o5⟩, t0, t1, t2, t3, t4, t5⟩ := undM
  obtain ⟨xs, n, _, _, hlen, hxl, hf⟩ := DataW.trod_struct hu h
  rw [cellsM] at hlen
  obtain ⟨a, b, c, d, e, f, rfl⟩ := list6 hlen
  obtain ⟨y0, y1, y2, y3, y4, y5, rfl⟩ := list6 (cs := xs) (by simpa using hxl)
  have g0 := hf 0 f0 rfl
  have g1 := hf 1 f1 rfl
  have g2 := hf 2 f2 rfl
  have g3 := hf 3 f3 rfl
  have g4 := hf 4 f4 rfl
  have g5 := hf 5 f5 rfl
  rw [t0, o0, cellsB] at g0
  rw [t1, o1, cellsI] at g1
  rw [t2, o2, cellsI] at g2
  rw [t3, o3, cellsI] at g3
  rw [t4, o4, cellsI] at g4
  rw [t5, o5, cellsI] at g5
  obtain ⟨v0, e0, _⟩ := DataW.trod_bool Try.underlying4 g0
  obtain ⟨v1, e1, _⟩ := DataW.trod_int Try.underlying3 g1
  obtain ⟨v2, e2, _⟩ := DataW.trod_int Try.underlying3 g2
  obtain ⟨v3, e3, _⟩ := DataW.trod_int Try.underlying3 g3
  obtain ⟨v4, e4, _⟩ := DataW.trod_int Try.underlying3 g4
  obtain ⟨v5, e5, _⟩ := DataW.trod_int Try.underlying3 g5
  simp at e0 e1 e2 e3 e4 e5
  subst e0 e1 e2 e3 e4 e5
  exact ⟨⟨v0, v1, v2, v3, v4, v5⟩, rfl⟩
set_option maxRecDepth 100000 in
theorem open_M {H : Type} {enc : TypeId × Value → H} {W : World} {r : Reach} {b0 : Nat} {v : Value} {d : DataW H} {p : List MemPlace} (hv : Value.okWide Try.prog W r b0 24 v)
    (h : DataW.Trod enc Try.prog W 0 (fun _ => true) true 24 v d p) : ∃ m : Mx, v = mxv m ∧ MxR m := by
  obtain ⟨f0, f1, f2, f3, f4, f5, hu, _⟩ := undM
  obtain ⟨cs, rfl, _⟩ := okWide_struct hu hv
  obtain ⟨fuel, hf⟩ := h
  obtain ⟨m, hm⟩ := mix_cells hf
  refine ⟨m, ?_, trivial⟩
  have hm' : cs.toList = [.bool m.no, .int .i64 m.a, .int .i64 m.b, .int .i64 m.c, .int .i64 m.md, .int .i64 m.rs] := by simpa [Value.cells] using hm
  have : cs = #[.bool m.no, .int .i64 m.a, .int .i64 m.b, .int .i64 m.c, .int .i64 m.md, .int .i64 m.rs] := by rw [← Array.toArray_toList (xs := cs), hm']
  rw [this]; rfl

end Go.Proofs.Ytehegllgaiehfaa
