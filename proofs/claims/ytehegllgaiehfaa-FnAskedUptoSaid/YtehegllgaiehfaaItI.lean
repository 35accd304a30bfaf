/- impl.Iterate. -/
import Derived.Test.YtehegllgaiehfaaFs
import Derived.Test.YtehegllgaiehfaaSt
namespace Go.Proofs.Ytehegllgaiehfaa
open Go.RowKit

theorem OwnF.form {base : Nat} {w : World} {v : Value} {fs : List Fd} (h : OwnF base w v fs) : ∃ a cap, v = .slice a fs.length cap := (OwnF.sl h).form

theorem Own.cap {α : Type} {sz : Nat} {enc : α → List Value} {E base : Nat} {w : World} {a : Option Addr} {n cap : Nat} {xs : List α} (h : Own sz enc E base w (.slice a n cap) xs) : n ≤ cap := by
  obtain ⟨_, h2⟩ := h.own
  rcases h2 with ⟨hv, _⟩ | ⟨g, cap', cur, hv, _, _, hc, _⟩
  · cases hv; exact Nat.le_refl _
  · cases hv; exact hc
theorem Sl.take {α : Type} {sz : Nat} {enc : α → List Value} {w : World} {a : Option Addr} {n cap : Nat} {xs : List α} (h : Sl sz enc w (.slice a n cap) xs) (k : Nat) (hk : k ≤ xs.length) : Sl sz enc w (.slice a k cap) (xs.take k) := by
  obtain ⟨a', cap', hv, hc⟩ := h.ex
  cases hv
  refine ⟨a, cap, by rw [List.length_take, Nat.min_eq_left hk], fun i x hx => hc i x ?_⟩
  rw [List.getElem?_take] at hx
  split at hx
  · exact hx
  · cases hx


end Go.Proofs.Ytehegllgaiehfaa
