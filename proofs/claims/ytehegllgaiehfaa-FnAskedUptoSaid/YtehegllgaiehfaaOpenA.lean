/- How a slice of acts is read, as an argument of a law. -/
import Derived.Test.YtehegllgaiehfaaOpenM
import Derived.Test.YtehegllgaiehfaaHist
import Derived.Deep.Slices
namespace Go.Proofs.Ytehegllgaiehfaa
open Go.ChangeShapes Go.WideShapes Go.ChangeAt Go.RowKit Go.Deep

theorem undA : ∃ f0 f1 f2 f3 f4 f5 : Field, Try.prog.underlying 47 = some (.struct #[f0, f1, f2, f3, f4, f5]) ∧ (f0.offset = 0 ∧ f1.offset = 1 ∧ f2.offset = 2 ∧ f3.offset = 3 ∧ f4.offset = 4 ∧ f5.offset = 5) ∧ f0.type = 3 ∧ f1.type = 3 ∧ f2.type = 3 ∧ f3.type = 21 ∧ f4.type = 3 ∧ f5.type = 24 := by
  refine ⟨_, _, _, _, _, _, Try.underlying47, ⟨rfl, rfl, rfl, rfl, rfl, rfl⟩, rfl, rfl, rfl, rfl, rfl, rfl⟩
theorem cellsA : Try.prog.cellsOf 47 = 11 := by kernel_rfl
theorem cellsK : Try.prog.cellsOf 21 = 1 := by kernel_rfl
theorem undSA : Try.prog.underlying 38 = some (.slice 47) := by kernel_rfl
theorem list11 {α : Type} {cs : List α} (h : cs.length = 11) : ∃ a b c d e f g i j k l, cs = [a, b, c, d, e, f, g, i, j, k, l] := by
  match cs, h with
  | [a, b, c, d, e, f, g, i, j, k, l], _ => exact ⟨a, b, c, d, e, f, g, i, j, k, l, rfl⟩
set_option maxRecDepth 100000 in
theorem act_cells {H : Type} {enc : TypeId × Value → H} {W : World} {fuel : Nat} {cs : List Value} {x : DataW H × List MemPlace} (h : DataW.trod enc Try.prog W 0 (fun _ => true) true fuel 47 cs = some x) :
    ∃ a : Ac, cs = ac a ∧ -2147483648 ≤ a.key ∧ a.key ≤ 2147483647 := by
  obtain ⟨f0, f1, f2, f3, f4, f5, hu, ⟨o0, o1, o2, o3, o4, o5⟩, t0, t1, t2, t3, t4, t5⟩ := undA
  obtain ⟨xs, n, _, _, hlen, hxl, hf⟩ := DataW.trod_struct hu h
  rw [cellsA] at hlen
  obtain ⟨a, b, c, d, e, m0, m1, m2, m3, m4, m5, rfl⟩ := list11 hlen
  obtain ⟨y0, y1, y2, y3, y4, y5, rfl⟩ := list6 (cs := xs) (by simpa using hxl)
  have g0 := hf 0 f0 rfl
  have g1 := hf 1 f1 rfl
  have g2 := hf 2 f2 rfl
  have g3 := hf 3 f3 rfl
  have g4 := hf 4 f4 rfl
  have g5 := hf 5 f5 rfl
  rw [t0, o0, cellsI] at g0
  rw [t1, o1, cellsI] at g1
  rw [t2, o2, cellsI] at g2
  rw [t3, o3, cellsK] at g3
  rw [t4, o4, cellsI] at g4
  rw [t5, o5, cellsM] at g5
  obtain ⟨v0, e0, _⟩ := DataW.trod_int Try.underlying3 g0
  obtain ⟨v1, e1, _⟩ := DataW.trod_int Try.underlying3 g1
  obtain ⟨v2, e2, _⟩ := DataW.trod_int Try.underlying3 g2
  obtain ⟨v3, e3, _, w3⟩ := DataW.trod_int Try.underlying21 g3
  obtain ⟨v4, e4, _⟩ := DataW.trod_int Try.underlying3 g4
  obtain ⟨m, e5⟩ := mix_cells g5
  simp at e0 e1 e2 e3 e4 e5
  obtain ⟨rfl, rfl, rfl, rfl, rfl, rfl⟩ := e5
  subst e0 e1 e2 e3 e4
  exact ⟨⟨v0, v1, v2, v3, v4, m⟩, rfl, wf32 w3⟩
def ac0 : Ac := ⟨0, 0, 0, 0, 0, ⟨false, 0, 0, 0, 0, 0⟩⟩
set_option maxRecDepth 100000 in
theorem open_A {H : Type} {enc : TypeId × Value → H} {W : World} {a : Option Addr} {len cap : Nat} {d : DataW H} {p : List MemPlace}
    (h : DataW.Trod enc Try.prog W 0 (fun _ => true) true 38 (.slice a len cap) d p) :
    ∃ ax : List Ac, SlA W (.slice a len cap) ax ∧ ActsW ax ∧ CapOk (.slice a len cap) ∧ ((d = .nil ∧ ax = []) ∨ ∃ elems spare, d = .slice elems spare ∧ elems.length = ax.length) := by
  obtain ⟨fuel, hf⟩ := h
  rcases open_slice undSA hf with ⟨hcs, hx⟩ | ⟨ad, l, c, m, n, D, Pl, hcs, _, hlc, hcm, hm, hx, hcell⟩
  · simp [Value.cells] at hcs
    obtain ⟨rfl, rfl, rfl⟩ := hcs
    simp only [Prod.mk.injEq] at hx
    exact ⟨[], Sl.nil _, (fun p hp => by cases hp), (fun _ _ _ e => by cases e; exact Nat.le_refl _), .inl ⟨hx.1, rfl⟩⟩
  · simp [Value.cells] at hcs
    obtain ⟨rfl, rfl, rfl⟩ := hcs
    simp only [Prod.mk.injEq] at hx
    simp at hm
    subst hm
    have each : ∀ i, i < len → ∃ q : Ac, (∀ (j : Nat) (u : Value), (ac q)[j]? = some u → W.cell? (ad.add (i * 11 + j)) = some u) ∧ -2147483648 ≤ q.key ∧ q.key ≤ 2147483647 := fun i hi => by
      obtain ⟨cs', h1, h2⟩ := hcell i (by omega)
      rw [cellsA] at h1
      obtain ⟨_, hl, hc⟩ := World.cells?_some h1
      obtain ⟨q, hq, hr⟩ := act_cells h2
      subst hq
      refine ⟨q, fun j u hj => ?_, hr⟩
      have hj' : j < 11 := (List.getElem?_eq_some_iff.1 hj).1
      have := hc j hj'
      rw [hj, Addr.add_add] at this
      exact this
    obtain ⟨F, hF⟩ : ∃ F : Nat → Ac, ∀ i, i < len → (∀ (j : Nat) (u : Value), (ac (F i))[j]? = some u → W.cell? (ad.add (i * 11 + j)) = some u) ∧ -2147483648 ≤ (F i).key ∧ (F i).key ≤ 2147483647 :=
      ⟨fun i => if h : i < len then Classical.choose (each i h) else ac0, fun i hi => by simp only [dif_pos hi]; exact Classical.choose_spec (each i hi)⟩
    refine ⟨(List.range len).map F, ⟨some ad, _, by rw [List.length_map, List.length_range], fun i x hx => ?_⟩, fun q hq => ?_, (fun _ _ _ e => by cases e; exact hlc), .inr ⟨_, _, hx.1, by simp⟩⟩
    · have hi : i < len := by
        have := (List.getElem?_eq_some_iff.1 hx).1
        simpa using this
      rw [List.getElem?_map, List.getElem?_range hi] at hx
      simp at hx
      subst hx
      obtain ⟨b, off, spot⟩ := ad
      have h00 := (hF 0 (by omega)).1 0 _ rfl
      have h0 := (hF i hi).1 0 _ rfl
      have hspot : spot = none := by
        have := World.cell?_spot (w := W) h00
        simpa [Addr.add] using this
      subst hspot
      rw [add_plain] at h0
      clear h00
      refine ⟨b, off, rfl, World.block_lt_of_cell? _ _ h0, fun j u hj => ?_⟩
      have := (hF i hi).1 j u hj
      rw [add_plain] at this
      rw [Nat.add_assoc]
      exact this
    · obtain ⟨i, hi, rfl⟩ := List.mem_map.1 hq
      exact (hF i (List.mem_range.1 hi)).2
set_option maxRecDepth 100000 in
theorem len_A {H : Type} {ts : List TypeId} {ds : List (DataW H)} (h : (DataW.weightsEach Try.prog ts ds).all (· ≤ reachBytes) = true) {j : Nat} (ht : ts[j]? = some 38) {d : DataW H} (hd : ds[j]? = some d) {ps : List Ac}
    (hx : (d = .nil ∧ ps = []) ∨ ∃ elems spare, d = .slice elems spare ∧ elems.length = ps.length) : ps.length ≤ 1599289640400 := by
  rcases hx with ⟨_, rfl⟩ | ⟨elems, spare, rfl, he⟩
  · simp
  · have := sized_slice h ht hd undSA
    have hb : Try.prog.bytesOf 47 = 88 := by kernel_rfl
    rw [hb] at this
    unfold reachBytes at this
    omega

end Go.Proofs.Ytehegllgaiehfaa
