/- How slices of bools and of numbers are read, as arguments of a law. -/
import Derived.Test.YtlmbgkgnbebkiaaOpen
import Derived.Test.YtlmbgkgnbebkiaaBs
import Derived.Deep.Slices
namespace Go.Proofs.Ytlmbgkgnbebkiaa
open Go.ChangeShapes Go.WideShapes Go.ChangeAt Go.RowKit Go.Deep

theorem cells1B : Try.prog.cellsOf 4 = 1 := by kernel_rfl
theorem cells1I : Try.prog.cellsOf 3 = 1 := by kernel_rfl
theorem undSB : Try.prog.underlying 34 = some (.slice 4) := by kernel_rfl
/-- a slice of elements of one cell -/
theorem open_one {H : Type} {enc : TypeId × Value → H} {W : World} {a : Option Addr} {len cap t e : Nat} {d : DataW H} {p : List MemPlace} {α : Type} (z : α) (en : α → Value) (ht : Try.prog.underlying t = some (.slice e)) (hc1 : Try.prog.cellsOf e = 1)
    (hel : ∀ fuel v x, DataW.trod enc Try.prog W 0 (fun _ => true) true fuel e [v] = some x → ∃ q, v = en q)
    (h : DataW.Trod enc Try.prog W 0 (fun _ => true) true t (.slice a len cap) d p) :
    ∃ xs : List α, Sl 1 (fun q => [en q]) W (.slice a len cap) xs ∧ ((d = .nil ∧ xs = []) ∨ ∃ elems spare, d = .slice elems spare ∧ elems.length = xs.length) := by
  obtain ⟨fuel, hf⟩ := h
  rcases open_slice ht hf with ⟨hcs, hx⟩ | ⟨ad, l, c, m, n, D, Pl, hcs, _, hlc, hcm, hm, hx, hcell⟩
  · simp [Value.cells] at hcs
    obtain ⟨rfl, rfl, rfl⟩ := hcs
    simp only [Prod.mk.injEq] at hx
    exact ⟨[], Sl.nil _, .inl ⟨hx.1, rfl⟩⟩
  · simp [Value.cells] at hcs
    obtain ⟨rfl, rfl, rfl⟩ := hcs
    simp only [Prod.mk.injEq] at hx
    simp at hm
    subst hm
    have each : ∀ i, i < len → ∃ q : α, W.cell? (ad.add i) = some (en q) := fun i hi => by
      obtain ⟨cs', h1, h2⟩ := hcell i (by omega)
      rw [hc1] at h1
      obtain ⟨_, hl, hc⟩ := World.cells?_some h1
      have h0 := hc 0 (by omega)
      match cs', hl with
      | [v], _ =>
        obtain ⟨q, rfl⟩ := hel _ _ _ h2
        rw [Addr.add_add] at h0
        exact ⟨q, by simpa using h0⟩
    obtain ⟨F, hF⟩ : ∃ F : Nat → α, ∀ i, i < len → W.cell? (ad.add i) = some (en (F i)) :=
      ⟨fun i => if h : i < len then Classical.choose (each i h) else z, fun i hi => by simp only [dif_pos hi]; exact Classical.choose_spec (each i hi)⟩
    refine ⟨(List.range len).map F, ⟨some ad, _, by rw [List.length_map, List.length_range], fun i x hx => ?_⟩, .inr ⟨_, _, hx.1, by simp⟩⟩
    have hi : i < len := by
      have := (List.getElem?_eq_some_iff.1 hx).1
      simpa using this
    rw [List.getElem?_map, List.getElem?_range hi] at hx
    simp at hx
    subst hx
    obtain ⟨b, off, spot⟩ := ad
    have h00 := hF 0 (by omega)
    have h0 := hF i hi
    have hspot : spot = none := by
      have := World.cell?_spot (w := W) h00
      simpa [Addr.add] using this
    subst hspot
    rw [add_plain] at h0
    refine ⟨b, off, rfl, World.block_lt_of_cell? _ _ h0, fun j u hj => ?_⟩
    match j, hj with
    | 0, hj => simp at hj; subst hj; simpa using h0
theorem open_B {H : Type} {enc : TypeId × Value → H} {W : World} {a : Option Addr} {len cap : Nat} {d : DataW H} {p : List MemPlace}
    (h : DataW.Trod enc Try.prog W 0 (fun _ => true) true 34 (.slice a len cap) d p) :
    ∃ xs : List Bool, SlB W (.slice a len cap) xs ∧ True ∧ True ∧ ((d = .nil ∧ xs = []) ∨ ∃ elems spare, d = .slice elems spare ∧ elems.length = xs.length) := by
  obtain ⟨xs, h1, h2⟩ := open_one false Value.bool undSB cells1B (fun _ _ _ hx => by
    obtain ⟨b, hb, _⟩ := DataW.trod_bool Try.underlying4 hx
    simp at hb
    exact ⟨b, hb⟩) h
  exact ⟨xs, h1, trivial, trivial, h2⟩
theorem len_B {H : Type} {ts : List TypeId} {ds : List (DataW H)} (h : (DataW.weightsEach Try.prog ts ds).all (· ≤ reachBytes) = true) {j : Nat} (ht : ts[j]? = some 34) {d : DataW H} (hd : ds[j]? = some d) {ps : List Bool}
    (hx : (d = .nil ∧ ps = []) ∨ ∃ elems spare, d = .slice elems spare ∧ elems.length = ps.length) : ps.length ≤ 140737488351232 := by
  rcases hx with ⟨_, rfl⟩ | ⟨elems, spare, rfl, he⟩
  · simp
  · have := sized_slice h ht hd undSB
    have hb : Try.prog.bytesOf 4 = 1 := by kernel_rfl
    rw [hb] at this
    unfold reachBytes at this
    omega
theorem undSN : Try.prog.underlying 44 = some (.slice 3) := by kernel_rfl
theorem open_N {H : Type} {enc : TypeId × Value → H} {W : World} {a : Option Addr} {len cap : Nat} {d : DataW H} {p : List MemPlace}
    (h : DataW.Trod enc Try.prog W 0 (fun _ => true) true 44 (.slice a len cap) d p) :
    ∃ xs : List Int, SlN W (.slice a len cap) xs ∧ True ∧ True ∧ ((d = .nil ∧ xs = []) ∨ ∃ elems spare, d = .slice elems spare ∧ elems.length = xs.length) := by
  obtain ⟨xs, h1, h2⟩ := open_one (0 : Int) (fun n => Value.int .i64 n) undSN cells1I (fun _ _ _ hx => by
    obtain ⟨b, hb, _⟩ := DataW.trod_int Try.underlying3 hx
    simp at hb
    exact ⟨b, hb⟩) h
  exact ⟨xs, h1, trivial, trivial, h2⟩
theorem len_N {H : Type} {ts : List TypeId} {ds : List (DataW H)} (h : (DataW.weightsEach Try.prog ts ds).all (· ≤ reachBytes) = true) {j : Nat} (ht : ts[j]? = some 44) {d : DataW H} (hd : ds[j]? = some d) {ps : List Int}
    (hx : (d = .nil ∧ ps = []) ∨ ∃ elems spare, d = .slice elems spare ∧ elems.length = ps.length) : ps.length ≤ 17592186043904 := by
  rcases hx with ⟨_, rfl⟩ | ⟨elems, spare, rfl, he⟩
  · simp
  · have := sized_slice h ht hd undSN
    have hb : Try.prog.bytesOf 3 = 8 := by kernel_rfl
    rw [hb] at this
    unfold reachBytes at this
    omega

end Go.Proofs.Ytlmbgkgnbebkiaa
