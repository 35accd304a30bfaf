/- impl.InPlace. -/
import Derived.Test.YtehegllgaiehfaaPlay
namespace Go.Proofs.Ytehegllgaiehfaa
open Go.RowKit

/-- a tree's header, kept as a value -/
abbrev Tv := Tr × Ps
def tvc (x : Tv) : List Value := [x.1.ptr, .int .i64 x.2.length]
theorem tvc_enc (x : Tv) : (tvc x).length = 2 ∧ ∀ u ∈ tvc x, u.oneCell' = true := ⟨rfl, fun u hu => by
  simp only [tvc, List.mem_cons, List.not_mem_nil, or_false] at hu
  rcases hu with rfl | rfl
  · obtain ⟨v, hv⟩ := ptr_form x.1
    rw [hv]; rfl
  · rfl⟩
abbrev OwnC := @Own Tv 2 tvc 78
/-- the set behind so many acts -/
def setAt (ax : List Ac) (k : Nat) : Ps := (ax.take k).foldl (fun s a => (upd s a).1) []
theorem setAt_succ (ax : List Ac) (k : Nat) (h : k < ax.length) : setAt ax (k + 1) = (upd (setAt ax k) ax[k]).1 := by
  rw [setAt, List.take_succ_eq_append_getElem h, List.foldl_append]; rfl
theorem setAt_take (ax : List Ac) (j k : Nat) (h : k ≤ j) : setAt (ax.take j) k = setAt ax k := by
  rw [setAt, setAt, List.take_take, Nat.min_eq_left h]
theorem setAt_good {ax : List Ac} (h : ActsW ax) : ∀ k, k ≤ ax.length → GoodV (setAt ax k)
  | 0, _ => by simpa [setAt] using GoodV.nil
  | k + 1, hk => by
    rw [setAt_succ ax k (by omega)]
    exact (setAt_good h k (by omega)).upd (h _ (List.getElem_mem _))
/-- the states of a tree, one behind the other -/
def inpl (ax : List Ac) (k : Nat) : List Ps := (List.range k).map (setAt ax)
theorem inpl_succ (ax : List Ac) (k : Nat) : inpl ax (k + 1) = inpl ax k ++ [setAt ax k] := by
  rw [inpl, List.range_succ, List.map_append]; rfl
theorem inpl_len (ax : List Ac) (k : Nat) : (inpl ax k).length = k := by simp [inpl]
theorem inpl_get (ax : List Ac) (k i : Nat) (h : i < k) : (inpl ax k)[i]? = some (setAt ax i) := by
  rw [inpl, List.getElem?_map, List.getElem?_range h]; rfl
theorem inpl_getD (ax : List Ac) (k i : Nat) (h : i < k) : (inpl ax k).getD i [] = setAt ax i := by
  rw [List.getD_eq_getElem?_getD, inpl_get ax k i h]; rfl

/-- the state of the first loop -/
structure Ip (w W : World) (o : Value) (xs : Ps) (vals : List Tv) (vs : List Ps) : Prop where
  head : Head W w.heap.size xs
  own : OwnC (w.heap.size + 1) W o vals
  sets : vals.map Prod.snd = vs
  each : ∀ x ∈ vals, GoodT W x.1 x.2
  kept : Kept Non w W
theorem Ip.ext {w W W' : World} {o : Value} {xs : Ps} {vals : List Tv} {vs : List Ps} (h : Ip w W o xs vals vs) (hk : Kept Non W W') : Ip w W' o xs vals vs :=
  ⟨h.head.ext hk, h.own.ext' hk, h.sets, fun x hx => (h.each x hx).ext hk, h.kept.trans hk⟩
theorem Ip.app {w W W' : World} {o o' : Value} {xs : Ps} {vals : List Tv} {vs : List Ps} {T : Tr} (h : Ip w W o xs vals vs) (hT : GoodT W T xs) (g1 : OwnC (w.heap.size + 1) W' o' (vals ++ [(T, xs)])) (g2 : Kept (OwnS o) W W') : Ip w W' o' xs (vals ++ [(T, xs)]) (vs ++ [xs]) := by
  have hn := h.own.not_blk (by decide)
  refine ⟨h.head.kept g2 (h.own.old (by omega)) hn, g1, by rw [List.map_append, h.sets]; rfl, fun x hx => ?_, h.kept.trans' g2 (fun i hi e => by have := h.own.block i e; omega)⟩
  rcases List.mem_append.1 hx with hx | hx
  · exact (h.each x hx).kept g2 (hn _ (h.each x hx).inn)
  · simp at hx; subst hx
    exact hT.kept g2 (hn _ hT.inn)
theorem Ip.turn {w W W' : World} {o : Value} {xs ys : Ps} {vals : List Tv} {vs : List Ps} (h : Ip w W o xs vals vs) (h1 : Head W' w.heap.size ys) (h2 : Kept (One w.heap.size) W W') : Ip w W' o ys vals vs :=
  ⟨h1, h.own.ext h2 (fun b hb e => by have e' : b = w.heap.size := e; omega), h.sets, fun x hx => (h.each x hx).kept h2 (h.head.nodes _ (h.each x hx).inn), h.kept.trans' h2 (fun i hi e => by have e' : i = w.heap.size := e; omega)⟩

/-- slices of pairs are returned in a slice -/
def NewV (w : World) (vs : List Ps) (e : Ending) (w' : World) : Prop := ∃ o vals, e = .returned o ∧ HsS w w' o (.slice none 0 0) vals vs []

theorem Hs.mono {α : Type} {enc : α → List Value} {E : Nat} {P : World → α → Ps → Prop} {w w5 W : World} {o t : Value} {vals : List α} {vs : List Ps} {fs : List Fd} (h : Hs enc E P w5 W o t vals vs fs) (hk : Kept Non w w5) : Hs enc E P w W o t vals vs fs :=
  ⟨h.own.mono hk.size, h.len, h.each, h.tol.mono hk.size, hk.trans h.kept⟩


end Go.Proofs.Ytehegllgaiehfaa
