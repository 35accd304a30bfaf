/- Append to a slice of the call itself, with the place of the new row. -/
import Derived.Test.YtehegllgaiehfaaFs
import Derived.Maps.AppendAt
namespace Go.Proofs.Ytehegllgaiehfaa
open Go.RowKit

/-- APPEND of one element to a slice of the call's own: where the row lies then -/
theorem wpList_app3 {α : Type} {sz bytes t E : Nat} {enc : α → List Value} {ops : Array Oper} {rest : List Oper} {o : Oper} {a : Act} {w : World} {Q : Exit → Act → World → Prop} (hgd : o.guard = none) (s x : Operand)
    (ho : o.op = .call { callee := .builtin .append, args := #[s, x], argTypes := #[t, t] }) (hty : ElTy t E sz bytes) (henc : ∀ x : α, (enc x).length = sz ∧ ∀ u ∈ enc x, u.oneCell' = true)
    (base : Nat) (v : Value) (xs : List α) (hs : a.eval s = v) (hown : Own sz enc E base w v xs) (nb : Nat) (y : α) (hx : a.eval x = .slice (some ⟨nb, 0, none⟩) 1 1) (hy : ∀ j u, (enc y)[j]? = some u → w.cell? ⟨nb, j, none⟩ = some u)
    (hlen : (xs.length + 1) * bytes ≤ 140737488355328) (hpos : 0 < bytes) (hbase : base ≤ w.heap.size)
    (h : ∀ v' w', Own sz enc E base w' v' (xs ++ [y]) → Kept (OwnS v) w w' → (∀ b, OwnS v' b → OwnS v b ∨ b = w.heap.size) → wpList Try.prog ops Q rest (a.put o.dst v') w') : wpList Try.prog ops Q (o :: rest) a w := by
  obtain ⟨i, z, h1, h2, h3, h4, h5, h6, h7⟩ := hty.ex
  have hl : xs.length + 1 ≤ maxLen := by
    have : (xs.length + 1) * 1 ≤ (xs.length + 1) * bytes := Nat.mul_le_mul_left _ hpos
    unfold maxLen; omega
  refine wpList_append_own_at w hgd s x t ho base E i z sz bytes h1 h2 h3 h4 h5 h6 h7 v xs.length (xs.flatMap enc) hs hown.own ⟨nb, 0, none⟩ 1 1 (enc y) hx (by rw [(henc y).1, Nat.one_mul]) (fun j u hj => ?_) (henc y).2 hl hlen hbase ?_
  · have := hy j u hj
    unfold Addr.add
    split
    · rename_i e; subst e; exact this
    · simpa using this
  · intro v' w' g1 g2 _ g4
    refine h v' w' ⟨by simpa using g1⟩ ⟨g2.os, g2.tape, g2.output, g2.size, fun k hk hn => g2.block k hk (fun e => hn e.symm)⟩ (fun b hb => ?_)
    have hb' : v'.ownBlock = some b := hb
    rcases g4 with g4 | g4
    · exact .inl (show v.ownBlock = some b from by rw [← g4]; exact hb')
    · rw [g4] at hb'
      exact .inr (Option.some.inj hb').symm

end Go.Proofs.Ytehegllgaiehfaa
