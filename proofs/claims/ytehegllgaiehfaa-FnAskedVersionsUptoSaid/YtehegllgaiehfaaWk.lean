/- impl.Walk and spec.Turned. -/
import Derived.Test.YtehegllgaiehfaaItI
import Derived.Test.YtehegllgaiehfaaFP
namespace Go.Proofs.Ytehegllgaiehfaa
open Go.RowKit

theorem lub_next {xs qs rs : Ps} {q : Int × Int} (h : Up xs) (e : xs = qs ++ q :: rs) : lubP q.1 false xs = rs.head? := by
  subst e
  obtain ⟨_, h2, h3⟩ := List.pairwise_append.1 h
  obtain ⟨h4, _⟩ := List.pairwise_cons.1 h2
  unfold lubP
  rw [List.find?_append, List.find?_cons_of_neg (by simp)]
  have : qs.find? (fun a => decide (q.1 < a.1) || (false && a.1 == q.1)) = none := by
    rw [List.find?_eq_none]
    intro a ha
    have := h3 a ha q (List.mem_cons_self ..)
    simp; omega
  rw [this, Option.none_or]
  cases rs with
  | nil => rfl
  | cons r rs => rw [List.find?_cons_of_pos (by have := h4 r (List.mem_cons_self ..); simp; omega)]; rfl
theorem glb_next {xs qs rs : Ps} {q : Int × Int} (h : Up xs) (e : xs.reverse = qs ++ q :: rs) : glbP q.1 false xs = rs.head? := by
  have e' : xs = rs.reverse ++ q :: qs.reverse := by
    have := congrArg List.reverse e
    simpa using this
  subst e'
  obtain ⟨_, h2, h3⟩ := List.pairwise_append.1 h
  obtain ⟨h4, _⟩ := List.pairwise_cons.1 h2
  unfold glbP
  rw [List.filter_append, List.filter_cons_of_neg (by simp), filter_all (fun a ha => by have := h3 a ha q (List.mem_cons_self ..); simp; omega)]
  have : (qs.reverse.filter fun a => decide (a.1 < q.1) || (false && a.1 == q.1)) = [] := by
    rw [List.filter_eq_nil_iff]
    intro a ha
    have := h4 a ha
    simp; omega
  rw [this, List.append_nil, List.getLast?_reverse]
theorem fdOf_some (q : Int × Int) : fdOf (some q) = (q.1, q.2, true) := rfl
theorem FdAt.keptO {S : Nat → Prop} {w w' : World} {b : Nat} {f : Fd} (h : FdAt w b f) (hk : Kept S w w') (hb : ¬ S b) : FdAt w' b f := ⟨(hk.block b (block_lt h.blk) hb).trans h.blk⟩
theorem FdAt.setK {w : World} {b : Nat} {g : Fd} : Kept (One b) w (((w.setCell ⟨b, 0, none⟩ (.int .i32 g.1)).setCell ⟨b, 1, none⟩ (.int .i64 g.2.1)).setCell ⟨b, 2, none⟩ (.bool g.2.2)) := (((Kept.refl _ _).setOne _ _).setOne _ _).setOne _ _
/-- a Found's variable, a tree and what has been told, younger than w -/
structure Wk (w : World) (b nb : Nat) (xs : Ps) (wr : World) (f : Fd) (o : Value) (qs : Ps) : Prop where
  head : Head wr b xs
  fd : FdAt wr nb f
  own : OwnF (nb + 1) wr o (qs.map tf)
  kept : Kept Non w wr
  nb0 : w.heap.size ≤ nb
  bn : b < nb
theorem Wk.ext {w wr w' : World} {b nb : Nat} {xs qs : Ps} {f : Fd} {o : Value} (h : Wk w b nb xs wr f o qs) (hk : Kept Non wr w') : Wk w b nb xs w' f o qs := ⟨h.head.ext hk, h.fd.ext hk, h.own.ext' hk, h.kept.trans hk, h.nb0, h.bn⟩
theorem Wk.app {w wr w' : World} {b nb : Nat} {xs qs : Ps} {f : Fd} {o v' : Value} {q : Int × Int} (h : Wk w b nb xs wr f o qs) (g1 : OwnF (nb + 1) w' v' (qs.map tf ++ [tf q])) (g2 : Kept (OwnS o) wr w') : Wk w b nb xs w' f v' (qs ++ [q]) := by
  have hs := h.nb0
  have hb := h.bn
  refine ⟨h.head.kept g2 (h.own.old (by omega)) (h.own.not_blk (by decide)), h.fd.keptO g2 (h.own.old (by omega)), by rw [List.map_append]; exact g1, h.kept.trans' g2 (fun i hi e => by have := h.own.block i e; omega), h.nb0, h.bn⟩
theorem Wk.set {w wr : World} {b nb : Nat} {xs qs : Ps} {f : Fd} {o : Value} (h : Wk w b nb xs wr f o qs) (g : Fd) : Wk w b nb xs (((wr.setCell ⟨nb, 0, none⟩ (.int .i32 g.1)).setCell ⟨nb, 1, none⟩ (.int .i64 g.2.1)).setCell ⟨nb, 2, none⟩ (.bool g.2.2)) g o qs := by
  have hb := h.bn
  have hs := h.nb0
  refine ⟨h.head.kept FdAt.setK (fun e => by have e' : b = nb := e; omega) (fun T hT c hc e => by have e' : c = nb := e; subst e'; exact h.fd.not_blk hT hc), h.fd.set, h.own.ext FdAt.setK (fun c hc e => by have e' : c = nb := e; omega), h.kept.trans' FdAt.setK (fun i hi e => by have e' : i = nb := e; omega), h.nb0, h.bn⟩




end Go.Proofs.Ytehegllgaiehfaa
