/- The state of the loops of Union, Intersection and Difference: a tree that is made, an iterator, and elder trees. -/
import Derived.Test.YtehegllgaiehfaaIt5
import Derived.Test.YtehegllgaiehfaaMix
namespace Go.Proofs.Ytehegllgaiehfaa
open Go.RowKit

/-- the iterator's row, as its variable holds it -/
theorem ItX.row {w : World} {ib g : Nat} {st : List Fr} (h : ItX w ib g st) : ∃ a n c ty, w.heap[ib]? = some (.cells #[.slice a n c] ty (0, 0)) ∧ RowV w (.slice a n c) g st := by
  rcases h with ⟨⟨ty, hb⟩, rfl⟩ | ⟨cap, h⟩
  · exact ⟨_, _, _, ty, hb, .inl ⟨rfl, rfl⟩⟩
  · obtain ⟨ty, hb⟩ := h.hdr
    exact ⟨_, _, _, ty, hb, .inr ⟨cap, rfl, h.row, h.chain⟩⟩

/-- an iterator in its variable, and what it still tells -/
def Itr (w : World) (ib g : Nat) (ps : Ps) : Prop := ∃ st, ItX w ib g st ∧ Good st ∧ rest st = ps.map en
theorem Itr.kept {S : Nat → Prop} {w w' : World} {ib g : Nat} {ps : Ps} (h : Itr w ib g ps) (hk : Kept S w w') (h1 : ¬ S ib) (h2 : ¬ S g) (hs : ∀ T, In w T → ∀ b, Blk b T → ¬ S b) : Itr w' ib g ps := by
  obtain ⟨st, a, b, c⟩ := h
  exact ⟨st, a.ext hk h1 h2 hs, b, c⟩
theorem Itr.ext {w w' : World} {ib g : Nat} {ps : Ps} (h : Itr w ib g ps) (hk : Kept Non w w') : Itr w' ib g ps := h.kept hk (fun h => h) (fun h => h) (fun _ _ _ _ h => h)
theorem Itr.lt {w : World} {ib g : Nat} {ps : Ps} (h : Itr w ib g ps) : ib < w.heap.size := by
  obtain ⟨st, a, b, c⟩ := h
  exact a.lt
theorem Itr.row {w : World} {ib g : Nat} {ps : Ps} (h : Itr w ib g ps) : ∃ a n c, w.cell? ⟨ib, 0, none⟩ = some (.slice a n c) ∧ ∀ W ib' ty, Kept Non w W → W.heap[ib']? = some (.cells #[.slice a n c] ty (0, 0)) → ib' ≠ g → Itr W ib' g ps := by
  obtain ⟨st, x, y, z⟩ := h
  obtain ⟨a, n, c, ty, h1, h2⟩ := x.row
  refine ⟨a, n, c, by rw [cell_of h1]; rfl, fun W ib' ty' hK hb hne => ⟨st, RowV.it (h2.ext hK (fun h => h) (fun _ _ _ _ h => h)) hb hne, y, z⟩⟩
theorem Itr.done {w : World} {ib g : Nat} {ps : Ps} (h : Itr w ib g ps) : Calls Try.prog 56 #[.pointer (some ⟨ib, 0, none⟩)] w fun e w' => e = .returned (.bool ps.isEmpty) ∧ w' = w := by
  obtain ⟨st, x, y, z⟩ := h
  have := Done_any w ib g st x y
  rw [z] at this
  refine this.mono ?_
  rintro e w' ⟨rfl, rfl⟩
  refine ⟨?_, rfl⟩
  cases ps <;> rfl
theorem ItX.node {w : World} {ib g : Nat} {st : List Fr} (h : ItX w ib g st) (hne : rest st ≠ []) : ∀ c l r d k h, w.heap[c]? = some (nodeObj l r d k h) → ¬ Two ib g c := by
  rcases h with ⟨_, rfl⟩ | ⟨cap, h⟩
  · exact absurd rfl hne
  · intro c l r d k hh hc e
    obtain ⟨ty, h1⟩ := h.hdr
    obtain ⟨cur, h2, _⟩ := h.rowB
    rcases e with rfl | rfl
    · rw [h1] at hc; simp [nodeObj] at hc
    · rw [h2] at hc; simp [nodeObj] at hc
theorem Itr.next {w : World} {ib g : Nat} {p : Int × Int} {ps : Ps} (h : Itr w ib g (p :: ps)) : Calls Try.prog 57 #[.pointer (some ⟨ib, 0, none⟩)] w fun e w' => e = .returned (.tuple #[.int .i32 p.1, .iface 3 (.int .i64 p.2)]) ∧ Itr w' ib g ps ∧ Kept (Two ib g) w w' ∧ ∀ T, In w T → ∀ b, Blk b T → ¬ Two ib g b := by
  obtain ⟨st, x, y, z⟩ := h
  refine (Next_any w ib g st x y p (ps.map en) z).mono ?_
  rintro e w' ⟨rfl, n1, st', n2, n3, n4⟩
  refine ⟨rfl, ⟨st', n2, n3, n4⟩, n1, fun T hT b hb => ?_⟩
  obtain ⟨l, r, d, k, h, ho⟩ := hT.obj hb
  exact x.node (by rw [z]; simp) _ _ _ _ _ _ ho

theorem Head.kept {S : Nat → Prop} {w w' : World} {b : Nat} {xs : Ps} (h : Head w b xs) (hk : Kept S w w') (hb : ¬ S b) (hs : ∀ T, In w T → ∀ b, Blk b T → ¬ S b) : Head w' b xs := by
  obtain ⟨T, h1, h2⟩ := h.ex
  exact ⟨T, (hk.block b (block_lt h1) hb).trans h1, h2.kept hk (hs T h2.inn)⟩
theorem Head.nodes {w : World} {b : Nat} {xs : Ps} (h : Head w b xs) : ∀ T, In w T → ∀ c, Blk c T → ¬ One b c := by
  obtain ⟨T, h1, h2⟩ := h.ex
  intro T' hT' c hc e
  have e' : c = b := e
  subst e'
  exact Head.not_blk h1 hT' hc

/-- the tree vb that is made, the iterator ib with its row g, both younger than w -/
structure St (w : World) (vb g : Nat) (wr : World) (ib : Nat) (vs ps : Ps) : Prop where
  head : Head wr vb vs
  itr : Itr wr ib g ps
  kept : Kept Non w wr
  v0 : w.heap.size ≤ vb
  g0 : w.heap.size ≤ g
  i0 : w.heap.size ≤ ib
  vg : vb ≠ g
  vi : vb ≠ ib
  ig : ib ≠ g
  gl : g < wr.heap.size
theorem St.ext {w wr w' : World} {vb g ib : Nat} {vs ps : Ps} (h : St w vb g wr ib vs ps) (hk : Kept Non wr w') : St w vb g w' ib vs ps :=
  ⟨h.head.ext hk, h.itr.ext hk, h.kept.trans hk, h.v0, h.g0, h.i0, h.vg, h.vi, h.ig, Nat.lt_of_lt_of_le h.gl hk.size⟩
theorem St.next {w wr : World} {vb g ib : Nat} {vs ps : Ps} {p : Int × Int} (h : St w vb g wr ib vs (p :: ps)) : Calls Try.prog 57 #[.pointer (some ⟨ib, 0, none⟩)] wr fun e w' => e = .returned (.tuple #[.int .i32 p.1, .iface 3 (.int .i64 p.2)]) ∧ St w vb g w' ib vs ps :=
  h.itr.next.mono fun e w' ⟨he, n1, n2, n3⟩ => ⟨he, h.head.kept n2 (fun e => by rcases e with e | e; exact h.vi e; exact h.vg e) n3, n1, h.kept.trans' n2 (fun i hi e => by have h1 := h.g0; have h2 := h.i0; rcases e with e | e <;> omega), h.v0, h.g0, h.i0, h.vg, h.vi, h.ig, Nat.lt_of_lt_of_le h.gl n2.size⟩
theorem St.turn1 {w wr w' : World} {vb g ib : Nat} {vs vs' ps : Ps} (h : St w vb g wr ib vs ps) (h1 : Head w' vb vs') (h2 : Kept (One vb) wr w') : St w vb g w' ib vs' ps :=
  ⟨h1, h.itr.kept h2 (fun e => h.vi e.symm) (fun e => h.vg e.symm) h.head.nodes, h.kept.trans' h2 (fun i hi e => by have h1 := h.v0; have e' : i = vb := e; omega), h.v0, h.g0, h.i0, h.vg, h.vi, h.ig, Nat.lt_of_lt_of_le h.gl h2.size⟩
theorem St.insert {w wr : World} {vb g ib : Nat} {vs ps : Ps} (h : St w vb g wr ib vs ps) (x d : Int) (hx : -2147483648 < x ∧ x ≤ 2147483647) :
    Calls Try.prog 53 #[.pointer (some ⟨vb, 0, none⟩), .int .i32 x, .iface 3 (.int .i64 d)] wr fun e w' => e = .returned (dv (findP x vs)) ∧ St w vb g w' ib (put x d vs) ps :=
  (TInsert_any wr vb vs x d hx h.head).mono fun _ _ ⟨he, h1, h2⟩ => ⟨he, h.turn1 h1 h2⟩
theorem St.delete {w wr : World} {vb g ib : Nat} {vs ps : Ps} (h : St w vb g wr ib vs ps) (x : Int) :
    Calls Try.prog 59 #[.pointer (some ⟨vb, 0, none⟩), .int .i32 x] wr fun e w' => e = .returned (dv (findP x vs)) ∧ St w vb g w' ib (drop x vs) ps :=
  (TDelete_any wr vb vs x h.head).mono fun _ _ ⟨he, h1, h2⟩ => ⟨he, h.turn1 h1 h2⟩
theorem dv_look (k : Int) (xs : Ps) : dv (findP k xs) = dv1 (look k xs) := by
  rw [find_look]
  cases look k xs <;> rfl
/-- a tree that was there at the start -/
theorem St.find {w wr : World} {vb g ib : Nat} {vs ps : Ps} (h : St w vb g wr ib vs ps) {tb : Nat} {xs : Ps} (ht : Head w tb xs) (x : Int) :
    Calls Try.prog 58 #[.pointer (some ⟨tb, 0, none⟩), .int .i32 x] wr fun e w' => e = .returned (dv1 (look x xs)) ∧ wr = w' := by
  have := TFind_any wr tb 0 xs x (ht.ext h.kept).at
  rwa [dv_look] at this
/-- the iterator's variable of the next round -/
theorem St.round {w wr : World} {vb g ib : Nat} {vs ps : Ps} (h : St w vb g wr ib vs ps) : ∃ a n c, wr.cell? ⟨ib, 0, none⟩ = some (.slice a n c) ∧ St w vb g (wr.alloc (.cells #[.slice a n c] 85)) wr.heap.size vs ps := by
  obtain ⟨a, n, c, h1, h2⟩ := h.itr.row
  have hk : Kept Non wr (wr.alloc (.cells #[.slice a n c] 85)) := (Kept.refl _ _).alloc _
  have h3 := h.gl
  refine ⟨a, n, c, h1, h.head.ext hk, h2 _ _ _ hk (alloc_new _ _) (by omega), h.kept.trans hk, h.v0, h.g0, h.kept.size, h.vg, ?_, by omega, by simp; omega⟩
  have := h.head.lt
  omega
theorem St.start {w w1 w2 : World} {vb g : Nat} {vs ps : Ps} {a : Option Addr} {n c : Nat} {st : List Fr} (h1 : Head w1 vb vs) (hv : w.heap.size ≤ vb) (hk : Kept Non w w1) (h2 : w1.heap.size ≤ g) (h3 : g < w2.heap.size) (h4 : RowV w2 (.slice a n c) g st) (h5 : Good st) (h6 : rest st = ps.map en) (h7 : Kept Non w1 w2) :
    St w vb g (w2.alloc (.cells #[.slice a n c] 85)) w2.heap.size vs ps := by
  have hk2 : Kept Non w2 (w2.alloc (.cells #[.slice a n c] 85)) := (Kept.refl _ _).alloc _
  have l1 := h1.lt
  have l2 := hk.size
  have l3 := h7.size
  exact ⟨h1.ext (h7.trans hk2), ⟨st, RowV.it (h4.ext hk2 (fun h => h) (fun _ _ _ _ h => h)) (alloc_new _ _) (by omega), h5, h6⟩, (hk.trans h7).trans hk2, hv, by omega, by omega, by omega, by omega, by omega, by simp; omega⟩

end Go.Proofs.Ytehegllgaiehfaa
