/- The frame of all walks of this seat: trees with their addresses as they lie in memory, sorted lists of pairs, and which blocks a call may turn. No statement of the seat is proved here. -/
import Derived.Test.YtehegllgaiehfaaRows
import Derived.WalkKit
import Derived.WalkSpells
import Derived.WalkLawsBesides
import Derived.Lib.Hide
import Derived.Deep.Trees
import Derived.Deep.QuietTactic
import Derived.BigQuiet
import Derived.StillTailTactics
namespace Go.Proofs.Ytehegllgaiehfaa
open Go.RowKit

/-- a key, the data as the cell holds them, the height as the cell holds it -/
abbrev Pl := Int × Value × Int
/-- a tree with its nodes' addresses -/
abbrev Tr := Go.Deep.BT Pl

def ht : Tr → Int
  | .nil => 0
  | .node _ _ a _ _ => a.2.2

def toL : Tr → List (Int × Value)
  | .nil => []
  | .node _ _ a l r => toL l ++ (a.1, a.2.1) :: toL r

/-- the block of a node -/
def nodeObj (l r d : Value) (k h : Int) : Obj := .cells #[l, r, d, .int .i32 k, .int .i8 h] 104 (0, 0)

/-- the nodes lie in the world, each a block of its own -/
def In (w : World) : Tr → Prop
  | .nil => True
  | .node b o a l r => o = 0 ∧ w.heap[b]? = some (nodeObj l.ptr r.ptr a.2.1 a.1 a.2.2) ∧ In w l ∧ In w r

/-- balanced, and the heights are true -/
def Avl : Tr → Prop
  | .nil => True
  | .node _ _ a l r => a.2.2 = 1 + max (ht l) (ht r) ∧ ht l ≤ ht r + 1 ∧ ht r ≤ ht l + 1 ∧ Avl l ∧ Avl r

/-- a block of the tree -/
def Blk (b : Nat) : Tr → Prop
  | .nil => False
  | .node b' _ _ l r => b' = b ∨ Blk b l ∨ Blk b r

/-- only blocks in S (of the elder ones) may have turned -/
structure Kept (S : Nat → Prop) (w w' : World) : Prop where
  os : w'.os = w.os
  tape : w'.tape = w.tape
  output : w'.output = w.output
  size : w.heap.size ≤ w'.heap.size
  block : ∀ k, k < w.heap.size → ¬ S k → w'.heap[k]? = w.heap[k]?

def Non : Nat → Prop := fun _ => False
def One (b : Nat) : Nat → Prop := fun k => k = b
def Two (b c : Nat) : Nat → Prop := fun k => k = b ∨ k = c

theorem Kept.refl (S : Nat → Prop) (w : World) : Kept S w w := ⟨rfl, rfl, rfl, Nat.le_refl _, fun _ _ _ => rfl⟩
theorem Kept.trans {S : Nat → Prop} {a b c : World} (h : Kept S a b) (k : Kept S b c) : Kept S a c :=
  ⟨k.os.trans h.os, k.tape.trans h.tape, k.output.trans h.output, Nat.le_trans h.size k.size,
   fun i hi hs => (k.block i (Nat.lt_of_lt_of_le hi h.size) hs).trans (h.block i hi hs)⟩
/-- the second step may turn blocks that were not there at the start -/
theorem Kept.trans' {S S' : Nat → Prop} {a b c : World} (h : Kept S a b) (k : Kept S' b c) (hs : ∀ i, i < a.heap.size → S' i → S i) : Kept S a c :=
  ⟨k.os.trans h.os, k.tape.trans h.tape, k.output.trans h.output, Nat.le_trans h.size k.size,
   fun i hi hn => (k.block i (Nat.lt_of_lt_of_le hi h.size) (fun h' => hn (hs i hi h'))).trans (h.block i hi hn)⟩
theorem Kept.mono {S S' : Nat → Prop} {a b : World} (h : Kept S a b) (hs : ∀ i, i < a.heap.size → S i → S' i) : Kept S' a b :=
  ⟨h.os, h.tape, h.output, h.size, fun i hi hn => h.block i hi (fun h' => hn (hs i hi h'))⟩
theorem Kept.alloc {S : Nat → Prop} {a w : World} (h : Kept S a w) (o : Obj) : Kept S a (w.alloc o) :=
  h.trans ⟨rfl, rfl, rfl, by simp, fun k hk _ => Below.heap_alloc _ _ _ hk⟩
theorem Kept.drew {S : Nat → Prop} {a w : World} (h : Kept S a w) : Kept S a w.drew := ⟨h.os, h.tape, h.output, h.size, h.block⟩
theorem Kept.drewN {S : Nat → Prop} {a w : World} (h : Kept S a w) (n : Nat) : Kept S a (w.drewN n) := ⟨h.os, h.tape, h.output, h.size, h.block⟩
theorem Kept.setCell {S : Nat → Prop} {a w : World} (h : Kept S a w) (p : Addr) (u : Value) (hp : p.block < a.heap.size → S p.block) : Kept S a (w.setCell p u) :=
  ⟨h.os, h.tape, h.output, by simpa using h.size, fun k hk hn => by
    have hne : k ≠ p.block := fun e => by subst e; exact hn (hp hk)
    rw [Below.heap_setCell _ _ _ _ hne]; exact h.block k hk hn⟩
theorem Kept.setOne {hb : Nat} {a w : World} (h : Kept (One hb) a w) (i : Nat) (u : Value) : Kept (One hb) a (w.setCell ⟨hb, i, none⟩ u) := h.setCell _ _ (fun _ => rfl)
theorem Kept.setNew {S : Nat → Prop} {a w : World} (h : Kept S a w) (b i : Nat) (hb : a.heap.size ≤ b) (u : Value) : Kept S a (w.setCell ⟨b, i, none⟩ u) := h.setCell _ _ (fun hlt => absurd hlt (Nat.not_lt.2 hb))
theorem Kept.one {hb : Nat} {a w : World} (h : Kept Non a w) : Kept (One hb) a w := h.mono (fun _ _ h => h.elim)
theorem Kept.below {S : Nat → Prop} {w w' : World} (h : Kept S w w') (hs : ∀ k, k < w.heap.size → ¬ S k) : Below w.heap.size w w' :=
  ⟨h.os, h.tape, h.output, h.size, fun k hk => h.block k hk (hs k hk)⟩
theorem Kept.of_below {S : Nat → Prop} {w w' : World} (h : Below w.heap.size w w') : Kept S w w' :=
  ⟨h.os, h.tape, h.output, h.size, fun k hk _ => h.block k hk⟩

theorem block_lt {w : World} {b : Nat} {o : Obj} (h : w.heap[b]? = some o) : b < w.heap.size := by
  rcases Nat.lt_or_ge b w.heap.size with h' | h'
  · exact h'
  · rw [Array.getElem?_eq_none h'] at h; cases h

theorem cell_of {w : World} {b : Nat} {c : Array Value} {e : TypeId} {z : Nat × Nat} (h : w.heap[b]? = some (.cells c e z)) (i : Nat) : w.cell? ⟨b, i, none⟩ = c[i]? := by
  simp [World.cell?, h]
theorem frozen_of {w : World} {b : Nat} {c : Array Value} {e : TypeId} (h : w.heap[b]? = some (.cells c e (0, 0))) (i : Nat) : w.frozen? ⟨b, i, none⟩ = false := by
  simp [World.frozen?, h]
theorem set_block {w : World} {b : Nat} {c : Array Value} {e : TypeId} {z : Nat × Nat} (h : w.heap[b]? = some (.cells c e z)) (i : Nat) (v : Value) :
    (w.setCell ⟨b, i, none⟩ v).heap[b]? = some (.cells (c.setIfInBounds i v) e z) := by
  simp [World.setCell, Array.getElem?_modify, h]
theorem set_other {w : World} {a : Addr} {v : Value} {k : Nat} (h : k ≠ a.block) : (w.setCell a v).heap[k]? = w.heap[k]? := Below.heap_setCell _ _ _ _ h
theorem alloc_new (w : World) (o : Obj) : (w.alloc o).heap[w.heap.size]? = some o := by
  show (w.heap.push o)[w.heap.size]? = _
  simp
theorem alloc_old {w : World} {k : Nat} (o : Obj) (h : k < w.heap.size) : (w.alloc o).heap[k]? = w.heap[k]? := Below.heap_alloc _ _ _ h

/-- the cells of a node -/
structure NodeAt (w : World) (b : Nat) (l r d : Value) (k h : Int) : Prop where
  c0 : w.cell? ⟨b, 0, none⟩ = some l
  c1 : w.cell? ⟨b, 1, none⟩ = some r
  c2 : w.cell? ⟨b, 2, none⟩ = some d
  c3 : w.cell? ⟨b, 3, none⟩ = some (.int .i32 k)
  c4 : w.cell? ⟨b, 4, none⟩ = some (.int .i8 h)
  fz : ∀ i, w.frozen? ⟨b, i, none⟩ = false
theorem nodeAt {w : World} {b : Nat} {l r d : Value} {k h : Int} (hb : w.heap[b]? = some (nodeObj l r d k h)) : NodeAt w b l r d k h := by
  unfold nodeObj at hb
  exact ⟨by rw [cell_of hb]; rfl, by rw [cell_of hb]; rfl, by rw [cell_of hb]; rfl, by rw [cell_of hb]; rfl, by rw [cell_of hb]; rfl, fun i => frozen_of hb i⟩

theorem In.blk_lt {w : World} {b : Nat} : ∀ {T : Tr}, In w T → Blk b T → b < w.heap.size
  | .nil, _, h => h.elim
  | .node _ _ _ _ _, hi, h => by
    rcases h with rfl | h | h
    · exact block_lt hi.2.1
    · exact In.blk_lt hi.2.2.1 h
    · exact In.blk_lt hi.2.2.2 h

/-- a tree none of whose blocks has turned lies there still -/
theorem In.keep {w w' : World} : ∀ {T : Tr}, In w T → (∀ b, Blk b T → w'.heap[b]? = w.heap[b]?) → In w' T
  | .nil, _, _ => trivial
  | .node b _ _ _ _, hi, h => ⟨hi.1, (h b (.inl rfl)).trans hi.2.1, In.keep hi.2.2.1 (fun c hc => h c (.inr (.inl hc))), In.keep hi.2.2.2 (fun c hc => h c (.inr (.inr hc)))⟩

theorem In.kept {S : Nat → Prop} {w w' : World} {T : Tr} (hi : In w T) (hk : Kept S w w') (hs : ∀ b, Blk b T → ¬ S b) : In w' T :=
  hi.keep fun b hb => hk.block b (hi.blk_lt hb) (hs b hb)

theorem In.ext {w w' : World} {T : Tr} (hi : In w T) (hk : Kept Non w w') : In w' T := hi.kept hk fun _ _ h => h

theorem ptr_form (T : Tr) : ∃ u, T.ptr = .pointer u := by
  cases T <;> exact ⟨_, rfl⟩

end Go.Proofs.Ytehegllgaiehfaa
