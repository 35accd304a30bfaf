/- Slices of structs as they are read, slices that a call appends to, and the law of append for them. -/
import Derived.Test.YtehegllgaiehfaaTree2
import Derived.Deep.LoopGhost
namespace Go.Proofs.Ytehegllgaiehfaa
open Go.RowKit

/-- a slice whose elements, so many cells each, are read as a list -/
structure Sl {α : Type} (sz : Nat) (enc : α → List Value) (w : World) (v : Value) (xs : List α) : Prop where
  ex : ∃ (a : Option Addr) (cap : Nat), v = .slice a xs.length cap ∧ ∀ (i : Nat) (x : α), xs[i]? = some x → ∃ b off, a = some ⟨b, off, none⟩ ∧ b < w.heap.size ∧ ∀ (j : Nat) (c : Value), (enc x)[j]? = some c → w.cell? ⟨b, off + i * sz + j, none⟩ = some c

theorem Sl.nil {α : Type} {sz : Nat} {enc : α → List Value} (w : World) : Sl sz enc w (.slice none 0 0) [] := ⟨none, 0, rfl, fun i x h => by simp at h⟩
theorem Sl.ext {α : Type} {sz : Nat} {enc : α → List Value} {w w' : World} {v : Value} {xs : List α} (h : Sl sz enc w v xs) (hk : Kept Non w w') : Sl sz enc w' v xs := by
  obtain ⟨a, cap, hv, hc⟩ := h.ex
  refine ⟨a, cap, hv, fun i x hx => ?_⟩
  obtain ⟨b, off, ha, hb, hcell⟩ := hc i x hx
  exact ⟨b, off, ha, Nat.lt_of_lt_of_le hb hk.size, fun j c hj => (World.cell?_of_block (hk.block b hb (fun h => h))).trans (hcell j c hj)⟩
/-- a slice, none of whose cells lies in a block that may have turned -/
theorem Sl.kept {α : Type} {sz : Nat} {enc : α → List Value} {S : Nat → Prop} {w w' : World} {v : Value} {xs : List α} (h : Sl sz enc w v xs) (hk : Kept S w w') (hs : ∀ b, v.ownBlock = some b → ¬ S b) : Sl sz enc w' v xs := by
  obtain ⟨a, cap, hv, hc⟩ := h.ex
  refine ⟨a, cap, hv, fun i x hx => ?_⟩
  obtain ⟨b, off, ha, hb, hcell⟩ := hc i x hx
  exact ⟨b, off, ha, Nat.lt_of_lt_of_le hb hk.size, fun j c hj => (World.cell?_of_block (hk.block b hb (hs b (by rw [hv, ha]; rfl)))).trans (hcell j c hj)⟩

/-- an element's cells, in a later world -/
theorem Sl.cells {α : Type} {sz : Nat} {enc : α → List Value} {w w' : World} {a : Option Addr} {n cap : Nat} {xs : List α} (h : Sl sz enc w (.slice a n cap) xs) (hk : Kept Non w w') (k : Nat) (hlt : k < xs.length) :
    ∃ b off, a = some ⟨b, off, none⟩ ∧ b < w.heap.size ∧ ∀ (j : Nat) (c : Value), (enc xs[k])[j]? = some c → w'.cell? ⟨b, off + k * sz + j, none⟩ = some c := by
  obtain ⟨a', cap', hv, hc⟩ := (h.ext hk).ex
  cases hv
  obtain ⟨b, off, ha, _, hcell⟩ := hc k xs[k] (List.getElem?_eq_getElem hlt)
  obtain ⟨a2, cap2, hv2, hc2⟩ := h.ex
  cases hv2
  obtain ⟨b2, off2, ha2, hb2, _⟩ := hc2 k xs[k] (List.getElem?_eq_getElem hlt)
  rw [ha] at ha2
  cases ha2
  exact ⟨b, off, ha, hb2, hcell⟩
theorem Sl.form {α : Type} {sz : Nat} {enc : α → List Value} {w : World} {v : Value} {xs : List α} (h : Sl sz enc w v xs) : ∃ a cap, v = .slice a xs.length cap := by
  obtain ⟨a, cap, hv, _⟩ := h.ex
  exact ⟨a, cap, hv⟩

/-- the type of a slice, and of its elements -/
structure ElTy (t E sz bytes : Nat) : Prop where
  ex : ∃ i z, Try.prog.underlying t = some (.slice E) ∧ Try.prog.info? E = some i ∧ i.zero = some z ∧ i.size = sz ∧ i.bytes = bytes ∧ z.cells.size = sz ∧ 0 < sz

/-- a slice of the call's own -/
structure Own {α : Type} (sz : Nat) (enc : α → List Value) (E base : Nat) (w : World) (v : Value) (xs : List α) : Prop where
  own : w.ownsRow base E sz v xs.length (xs.flatMap enc)

theorem Own.nil {α : Type} {sz : Nat} {enc : α → List Value} {E base : Nat} (w : World) : Own sz enc E base w (.slice none 0 0) ([] : List α) := ⟨World.ownsRow_nil w base E sz⟩
theorem Own.alloc {α : Type} {sz : Nat} {enc : α → List Value} {E base : Nat} {w : World} {v : Value} {xs : List α} (h : Own sz enc E base w v xs) (o : Obj) : Own sz enc E base (w.alloc o) v xs := ⟨h.own.alloc o⟩
theorem Own.ext {α : Type} {sz : Nat} {enc : α → List Value} {E base : Nat} {S : Nat → Prop} {w w' : World} {v : Value} {xs : List α} (h : Own sz enc E base w v xs) (hk : Kept S w w') (hs : ∀ b, base ≤ b → ¬ S b) : Own sz enc E base w' v xs := by
  obtain ⟨h1, h2⟩ := h.own
  refine ⟨h1, ?_⟩
  rcases h2 with h2 | ⟨g, cap, cur, hv, hg, hh, r⟩
  · exact .inl h2
  · exact .inr ⟨g, cap, cur, hv, hg, (hk.block g (block_lt hh) (hs g hg)).trans hh, r⟩
theorem Own.ext' {α : Type} {sz : Nat} {enc : α → List Value} {E base : Nat} {w w' : World} {v : Value} {xs : List α} (h : Own sz enc E base w v xs) (hk : Kept Non w w') : Own sz enc E base w' v xs := h.ext hk (fun _ _ h => h)
theorem Own.mono {α : Type} {sz : Nat} {enc : α → List Value} {E base base' : Nat} {w : World} {v : Value} {xs : List α} (h : Own sz enc E base w v xs) (hb : base' ≤ base) : Own sz enc E base' w v xs := by
  obtain ⟨h1, h2⟩ := h.own
  refine ⟨h1, ?_⟩
  rcases h2 with h2 | ⟨g, cap, cur, hv, hg, r⟩
  · exact .inl h2
  · exact .inr ⟨g, cap, cur, hv, Nat.le_trans hb hg, r⟩
theorem Own.block {α : Type} {sz : Nat} {enc : α → List Value} {E base : Nat} {w : World} {v : Value} {xs : List α} (h : Own sz enc E base w v xs) : ∀ k, v.ownBlock = some k → base ≤ k := fun k hk => (h.own.lt k hk).1

theorem flat_get {α : Type} {sz : Nat} {enc : α → List Value} (henc : ∀ x, (enc x).length = sz) : ∀ (xs : List α) (i : Nat) (x : α), xs[i]? = some x → ∀ j, j < sz → (xs.flatMap enc)[i * sz + j]? = (enc x)[j]?
  | [], i, x, h, _, _ => by simp at h
  | a :: xs, 0, x, h, j, hj => by
    simp at h; subst h
    rw [List.flatMap_cons, List.getElem?_append_left (by rw [henc]; omega)]
    simp
  | a :: xs, i + 1, x, h, j, hj => by
    rw [List.flatMap_cons, List.getElem?_append_right (by rw [henc, Nat.succ_mul]; omega), henc]
    have : (i + 1) * sz + j - sz = i * sz + j := by rw [Nat.succ_mul]; omega
    rw [this]
    exact flat_get henc xs i x (by simpa using h) j hj
theorem Own.sl {α : Type} {sz : Nat} {enc : α → List Value} {E base : Nat} {w : World} {v : Value} {xs : List α} (henc : ∀ x, (enc x).length = sz) (h : Own sz enc E base w v xs) : Sl sz enc w v xs := by
  obtain ⟨h1, h2⟩ := h.own
  rcases h2 with ⟨hv, hn⟩ | ⟨g, cap, cur, hv, hg, hh, hcap, _, hsz, htake⟩
  · have : xs = [] := List.length_eq_zero_iff.1 hn
    subst this; subst hv
    exact Sl.nil w
  · refine ⟨some ⟨g, 0, none⟩, cap, hv, fun i x hx => ⟨g, 0, rfl, block_lt hh, fun j c hc => ?_⟩⟩
    have hi : i < xs.length := (List.getElem?_eq_some_iff.1 hx).1
    have hj : j < sz := by rw [← henc x]; exact (List.getElem?_eq_some_iff.1 hc).1
    have h3 := flat_get henc xs i x hx j hj
    rw [hc, ← htake] at h3
    have hlt : i * sz + j < xs.length * sz := by
      have : (i + 1) * sz ≤ xs.length * sz := Nat.mul_le_mul_right _ hi
      rw [Nat.succ_mul] at this
      omega
    rw [List.getElem?_take_of_lt hlt] at h3
    rw [cell_of hh, Nat.zero_add, ← h3, Array.getElem?_toList]

/-- the cells of the block that was made last -/
theorem new_cells {w : World} {cs : List Value} {E n : Nat} (hn : n = w.heap.size) (j : Nat) (u : Value) (h : cs[j]? = some u) : (w.alloc (.cells cs.toArray E)).cell? ⟨n, j, none⟩ = some u := by
  subst hn
  rw [cell_of (alloc_new w _)]
  simpa using h

/-- APPEND of one element to a slice of the call's own -/
theorem wpList_app {α : Type} {sz bytes t E : Nat} {enc : α → List Value} {ops : Array Oper} {rest : List Oper} {o : Oper} {a : Act} {w : World} {Q : Exit → Act → World → Prop} (hgd : o.guard = none) (s x : Operand)
    (ho : o.op = .call { callee := .builtin .append, args := #[s, x], argTypes := #[t, t] }) (hty : ElTy t E sz bytes) (henc : ∀ x : α, (enc x).length = sz ∧ ∀ u ∈ enc x, u.oneCell' = true)
    (base : Nat) (v : Value) (xs : List α) (hs : a.eval s = v) (hown : Own sz enc E base w v xs) (nb : Nat) (y : α) (hx : a.eval x = .slice (some ⟨nb, 0, none⟩) 1 1) (hy : ∀ j u, (enc y)[j]? = some u → w.cell? ⟨nb, j, none⟩ = some u)
    (hlen : (xs.length + 1) * bytes ≤ 140737488355328) (hpos : 0 < bytes) (hbase : base ≤ w.heap.size)
    (h : ∀ v' w', Own sz enc E base w' v' (xs ++ [y]) → Kept (fun k => base ≤ k) w w' → wpList Try.prog ops Q rest (a.put o.dst v') w') : wpList Try.prog ops Q (o :: rest) a w := by
  obtain ⟨i, z, h1, h2, h3, h4, h5, h6, h7⟩ := hty.ex
  have hl : xs.length + 1 ≤ maxLen := by
    have : (xs.length + 1) * 1 ≤ (xs.length + 1) * bytes := Nat.mul_le_mul_left _ hpos
    unfold maxLen; omega
  refine wpList_append_own w hgd s x t ho base E i z sz bytes h1 h2 h3 h4 h5 h6 h7 v xs.length (xs.flatMap enc) hs hown.own ⟨nb, 0, none⟩ 1 1 (enc y) hx (by rw [(henc y).1, Nat.one_mul]) (fun j u hj => ?_) (henc y).2 hl hlen hbase ?_
  · have := hy j u hj
    unfold Addr.add
    split
    · rename_i e; subst e; exact this
    · simpa using this
  · intro v' w' g1 g2 _
    refine h v' w' ⟨by simpa using g1⟩ ⟨g2.os, g2.tape, g2.output, g2.size, fun k hk hn => g2.block k hk (fun e => hn ?_)⟩
    exact hown.block k e.symm

/-- a pair's cells -/
def pc (p : Int × Int) : List Value := [.int .i32 p.1, .int .i64 p.2]
abbrev SlP := @Sl (Int × Int) 2 pc
abbrev OwnP := @Own (Int × Int) 2 pc 27
theorem pc_enc (p : Int × Int) : (pc p).length = 2 ∧ ∀ u ∈ pc p, u.oneCell' = true := ⟨rfl, fun u hu => by simp [pc] at hu; rcases hu with rfl | rfl <;> rfl⟩
theorem elTy_of {t E sz bytes : Nat} {z : Value} (h1 : Try.prog.underlying t = some (.slice E)) (h2 : (Try.prog.info? E).map (fun i => (i.zero, i.size, i.bytes)) = some (some z, sz, bytes)) (h3 : z.cells.size = sz) (h4 : 0 < sz) : ElTy t E sz bytes := by
  obtain ⟨i, hi, hz0, hz1, hz2⟩ := info_parts h2
  exact ⟨i, z, h1, hi, hz0, hz1, hz2, h3, h4⟩
theorem tyP : ElTy 22 27 2 16 := elTy_of (z := .agg #[.int .i32 0, .int .i64 0]) (by kernel_rfl) (by kernel_rfl) rfl (by decide)

theorem Sl.pair {w w' : World} {a : Option Addr} {n cap : Nat} {ps : List (Int × Int)} (h : SlP w (.slice a n cap) ps) (hk : Kept Non w w') (k : Nat) (hlt : k < ps.length) :
    ∃ b off, a = some ⟨b, off, none⟩ ∧ b < w.heap.size ∧ w'.cell? ⟨b, off + k * 2, none⟩ = some (.int .i32 ps[k].1) ∧ w'.cell? ⟨b, off + k * 2 + 1, none⟩ = some (.int .i64 ps[k].2) := by
  obtain ⟨b, off, ha, hb, hc⟩ := h.cells hk k hlt
  exact ⟨b, off, ha, hb, hc 0 _ rfl, hc 1 _ rfl⟩

end Go.Proofs.Ytehegllgaiehfaa
