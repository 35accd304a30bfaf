/- aInsert: a key is put into a sorted, balanced tree; the elder tree stays as it was. -/
import Derived.Test.YtehegllgaiehfaaHigh
namespace Go.Proofs.Ytehegllgaiehfaa
open Go.RowKit

/-- a sorted list in which a key has data -/
def putL (x : Int) (v : Value) (xs : List (Int × Value)) : List (Int × Value) := xs.filter (fun a => decide (a.1 < x)) ++ (x, v) :: xs.filter (fun a => decide (x < a.1))

theorem filter_all {α : Type} {p : α → Bool} {xs : List α} (h : ∀ a ∈ xs, p a = true) : xs.filter p = xs := List.filter_eq_self.2 h

section
variable {b o : Nat} {a : Pl} {l r : Tr} {x : Int} {v : Value}
theorem put_eq (h : Srt (toL (.node b o a l r))) (hx : x = a.1) : putL x v (toL (.node b o a l r)) = toL l ++ (x, v) :: toL r := by
  obtain ⟨_, _, h3, h4, _⟩ := h.parts
  subst hx
  rw [putL, toL_node, List.filter_append, List.filter_append, filter_all (xs := toL l) (fun c hc => by simpa using h3 c hc), filter_none (xs := toL l) (p := fun c => decide (a.1 < c.1)) (fun c hc => by have := h3 c hc; simp; omega),
    List.filter_cons_of_neg (by simp), List.filter_cons_of_neg (by simp), filter_none (xs := toL r) (p := fun c => decide (c.1 < a.1)) (fun c hc => by have := h4 c hc; simp; omega), filter_all (xs := toL r) (fun c hc => by simpa using h4 c hc)]
  simp
theorem put_same (h : Srt (toL (.node b o a l r))) (hx : x = a.1) : toL (.node b o a l r) = putL x a.2.1 (toL (.node b o a l r)) := by
  rw [put_eq h hx, toL_node, hx]
theorem put_lt (h : Srt (toL (.node b o a l r))) (hx : x < a.1) : putL x v (toL (.node b o a l r)) = putL x v (toL l) ++ (a.1, a.2.1) :: toL r := by
  obtain ⟨_, _, h3, h4, _⟩ := h.parts
  rw [putL, putL, toL_node, List.filter_append, List.filter_append, List.filter_cons_of_neg (by simp; omega), List.filter_cons_of_pos (by simpa using hx),
    filter_none (xs := toL r) (p := fun c => decide (c.1 < x)) (fun c hc => by have := h4 c hc; simp; omega), filter_all (xs := toL r) (fun c hc => by have := h4 c hc; simp; omega)]
  simp
theorem put_gt (h : Srt (toL (.node b o a l r))) (hx : a.1 < x) : putL x v (toL (.node b o a l r)) = toL l ++ (a.1, a.2.1) :: putL x v (toL r) := by
  obtain ⟨_, _, h3, h4, _⟩ := h.parts
  rw [putL, putL, toL_node, List.filter_append, List.filter_append, List.filter_cons_of_pos (by simpa using hx), List.filter_cons_of_neg (by simp; omega),
    filter_all (xs := toL l) (fun c hc => by have := h3 c hc; simp; omega), filter_none (xs := toL l) (p := fun c => decide (x < c.1)) (fun c hc => by have := h3 c hc; simp; omega)]
  simp
end

theorem Srt.put {xs : List (Int × Value)} (h : Srt xs) (x : Int) (v : Value) : Srt (putL x v xs) := by
  unfold Srt putL
  rw [List.pairwise_append, List.pairwise_cons]
  refine ⟨h.filter _, ⟨fun c hc => ?_, h.filter _⟩, fun c hc c' hc' => ?_⟩
  · simpa using (List.mem_filter.1 hc).2
  · have h1 : c.1 < x := by simpa using (List.mem_filter.1 hc).2
    rcases List.mem_cons.1 hc' with rfl | hc'
    · exact h1
    · have h2 : x < c'.1 := by simpa using (List.mem_filter.1 hc').2
      omega

theorem makeNode_abs (w : World) (k : Int) : Calls Try.prog 79 #[.int .i32 k] w (CopyPost w (nodeObj (.pointer none) (.pointer none) .nilIface k 1)) :=
  (makeNode_any w k).mono fun e w' ⟨he, hw⟩ => by
    subst he; subst hw
    exact ⟨rfl, alloc_new _ _, (Kept.refl _ _).alloc _, by simp⟩

def InsPost (w : World) (T : Tr) (x : Int) (e : Ending) (w' : World) : Prop :=
  ∃ (T' : Tr) (nb : Nat) (old : Value), e = .returned (.tuple #[T'.ptr, .pointer (some ⟨nb, 0, none⟩), old]) ∧ In w' T' ∧ Avl T' ∧ DataOk T' ∧ (∃ v0, toL T' = putL x v0 (toL T)) ∧
    HasNode nb x T' ∧ w.heap.size ≤ nb ∧ RootP (fun b => w.heap.size ≤ b) T' ∧ Kept Non w w' ∧ PtrTo w old ((toL T).find? (atKey x)) ∧ (ht T' = ht T ∨ ht T' = ht T + 1)

def HighIns (w : World) (T0 : Tr) (x : Int) (nb : Nat) (hR : Int) (e : Ending) (w' : World) : Prop :=
  ∃ T' : Tr, e = .returned T'.ptr ∧ In w' T' ∧ toL T' = toL T0 ∧ Avl T' ∧ DataOk T' ∧ (ht T' = hR + 2 ∨ ht T' = hR + 3) ∧ Kept Non w w' ∧ RootP (fun b => w.heap.size ≤ b) T' ∧ HasNode nb x T'

theorem HasNode.blk {b : Nat} {x : Int} : ∀ {T : Tr}, HasNode b x T → Blk b T
  | .nil, h => h
  | .node _ _ _ _ _, h => by
    rcases h with h | h | h
    · exact .inl h.1
    · exact .inr (.inl h.blk)
    · exact .inr (.inr h.blk)
theorem In.obj {w : World} {b : Nat} : ∀ {T : Tr}, In w T → Blk b T → ∃ l r d k h, w.heap[b]? = some (nodeObj l r d k h)
  | .nil, _, h => h.elim
  | .node _ _ _ _ _, hi, h => by
    rcases h with rfl | h | h
    · exact ⟨_, _, _, _, _, hi.2.1⟩
    · exact hi.2.2.1.obj h
    · exact hi.2.2.2.obj h



theorem aLeftIsHigh_any (w : World) (tb lb : Nat) (A B R : Tr) (d d' : Value) (k k' h h' : Int) (u : Option Addr) (hu : u = none ∨ ∃ p c t, u = some ⟨p, 0, none⟩ ∧ w.heap[p]? = some (.cells c t (0, 0)))
    (hi : In w (.node tb 0 (k, d, h) (.node lb 0 (k', d', h') A B) R)) (hs : Srt (toL (.node tb 0 (k, d, h) (.node lb 0 (k', d', h') A B) R))) (hd : DataOk (.node tb 0 (k, d, h) (.node lb 0 (k', d', h') A B) R))
    (hl : Avl (.node lb 0 (k', d', h') A B)) (hr : Avl R) (hh : h' = ht R + 2) (hb : ht R ≤ 90) :
    Calls Try.prog 92 #[.pointer (some ⟨tb, 0, none⟩), .pointer u] w
      (HighPost w (.node tb 0 (k, d, h) (.node lb 0 (k', d', h') A B) R) (fun b => b = tb ∨ b = lb ∨ u = some ⟨b, 0, none⟩) (ht R) (.pointer u) (fun b => b = lb ∨ w.heap.size ≤ b ∨ u = some ⟨b, 0, none⟩)) := by
  by_cases hAB : ht A < ht B
  · cases B with
    | nil =>
      have := Avl.ht_nonneg hl.2.2.2.1
      simp only [ht] at hAB this
      omega
    | node bb o ab BL BR =>
      have ho : o = 0 := hi.2.2.1.2.2.2.1
      subst ho
      obtain ⟨kb, db, hb'⟩ := ab
      have own : u = some ⟨bb, 0, none⟩ ∨ (u = none ∨ ∃ p c t, u = some ⟨p, 0, none⟩ ∧ w.heap[p]? = some (.cells c t (0, 0)) ∧ p ≠ bb) := by
        rcases hu with hu | ⟨p, c, t, hu, hp⟩
        · exact .inr (.inl hu)
        · by_cases e : p = bb
          · subst e; exact .inl hu
          · exact .inr (.inr ⟨p, c, t, hu, hp, e⟩)
      rcases own with hq | hq
      · refine (aLeftIsHigh_own w tb lb bb A BL BR R d d' db k k' kb h h' hb' u hq hi hs hd hl hr hh hb hAB).mono ?_
        rintro e w' ⟨T', h1, h2, h3, h4, h5, h6, h7, h8, h9⟩
        exact ⟨T', h1, h2, h3, h4, h5, h6, h7.mono (fun i _ h => h.elim .inl (fun h => h.elim (fun e => .inr (.inl e)) (fun e => .inr (.inr (by rw [hq, e]))))), h8.mono (fun b hb => .inr (.inr (by rw [hq, show b = bb from hb]))), h9⟩
      · refine (aLeftIsHigh_copied w tb lb bb A BL BR R d d' db k k' kb h h' hb' u hq hi hs hd hl hr hh hb hAB).mono ?_
        rintro e w' ⟨T', h1, h2, h3, h4, h5, h6, h7, h8, h9⟩
        exact ⟨T', h1, h2, h3, h4, h5, h6, h7.mono (fun i _ h => h.elim .inl (fun e => .inr (.inl e))), h8.mono (fun b hb => .inr (.inl (by rw [show b = w.heap.size from hb]; exact Nat.le_refl _))), h9⟩
  · refine (aLeftIsHigh_single w tb lb A B R d d' k k' h h' u hi hs hd hl hr hh hb hAB).mono ?_
    rintro e w' ⟨T', h1, h2, h3, h4, h5, h6, h7, h8, h9⟩
    exact ⟨T', h1, h2, h3, h4, h5, h6, h7.mono (fun i _ h => h.elim .inl (fun e => .inr (.inl e))), h8.mono (fun b hb => .inl hb), h9⟩


theorem aRightIsHigh_any (w : World) (tb lb : Nat) (A B R : Tr) (d d' : Value) (k k' h h' : Int) (u : Option Addr) (hu : u = none ∨ ∃ p c t, u = some ⟨p, 0, none⟩ ∧ w.heap[p]? = some (.cells c t (0, 0)))
    (hi : In w (.node tb 0 (k, d, h) R (.node lb 0 (k', d', h') B A))) (hs : Srt (toL (.node tb 0 (k, d, h) R (.node lb 0 (k', d', h') B A)))) (hd : DataOk (.node tb 0 (k, d, h) R (.node lb 0 (k', d', h') B A)))
    (hl : Avl (.node lb 0 (k', d', h') B A)) (hr : Avl R) (hh : h' = ht R + 2) (hb : ht R ≤ 90) :
    Calls Try.prog 93 #[.pointer (some ⟨tb, 0, none⟩), .pointer u] w
      (HighPost w (.node tb 0 (k, d, h) R (.node lb 0 (k', d', h') B A)) (fun b => b = tb ∨ b = lb ∨ u = some ⟨b, 0, none⟩) (ht R) (.pointer u) (fun b => b = lb ∨ w.heap.size ≤ b ∨ u = some ⟨b, 0, none⟩)) := by
  by_cases hAB : ht A < ht B
  · cases B with
    | nil =>
      have := Avl.ht_nonneg hl.2.2.2.2
      simp only [ht] at hAB this
      omega
    | node bb o ab BL BR =>
      have ho : o = 0 := hi.2.2.2.2.2.1.1
      subst ho
      obtain ⟨kb, db, hb'⟩ := ab
      have own : u = some ⟨bb, 0, none⟩ ∨ (u = none ∨ ∃ p c t, u = some ⟨p, 0, none⟩ ∧ w.heap[p]? = some (.cells c t (0, 0)) ∧ p ≠ bb) := by
        rcases hu with hu | ⟨p, c, t, hu, hp⟩
        · exact .inr (.inl hu)
        · by_cases e : p = bb
          · subst e; exact .inl hu
          · exact .inr (.inr ⟨p, c, t, hu, hp, e⟩)
      rcases own with hq | hq
      · refine (aRightIsHigh_own w tb lb bb A BR BL R d d' db k k' kb h h' hb' u hq hi hs hd hl hr hh hb hAB).mono ?_
        rintro e w' ⟨T', h1, h2, h3, h4, h5, h6, h7, h8, h9⟩
        exact ⟨T', h1, h2, h3, h4, h5, h6, h7.mono (fun i _ h => h.elim .inl (fun h => h.elim (fun e => .inr (.inl e)) (fun e => .inr (.inr (by rw [hq, e]))))), h8.mono (fun b hb => .inr (.inr (by rw [hq, show b = bb from hb]))), h9⟩
      · refine (aRightIsHigh_copied w tb lb bb A BR BL R d d' db k k' kb h h' hb' u hq hi hs hd hl hr hh hb hAB).mono ?_
        rintro e w' ⟨T', h1, h2, h3, h4, h5, h6, h7, h8, h9⟩
        exact ⟨T', h1, h2, h3, h4, h5, h6, h7.mono (fun i _ h => h.elim .inl (fun e => .inr (.inl e))), h8.mono (fun b hb => .inr (.inl (by rw [show b = w.heap.size from hb]; exact Nat.le_refl _))), h9⟩
  · refine (aRightIsHigh_single w tb lb A B R d d' k k' h h' u hi hs hd hl hr hh hb hAB).mono ?_
    rintro e w' ⟨T', h1, h2, h3, h4, h5, h6, h7, h8, h9⟩
    exact ⟨T', h1, h2, h3, h4, h5, h6, h7.mono (fun i _ h => h.elim .inl (fun e => .inr (.inl e))), h8.mono (fun b hb => .inl hb), h9⟩


set_option maxRecDepth 100000 in
theorem aInsert_eq (w : World) (b : Nat) (k : Int) (d : Value) (h x : Int) (l r : Tr) (hi : In w (.node b 0 (k, d, h) l r)) (ha : Avl (.node b 0 (k, d, h) l r)) (hs : Srt (toL (.node b 0 (k, d, h) l r))) (hd : DataOk (.node b 0 (k, d, h) l r)) (hx : x = k) :
    Calls Try.prog 80 #[.pointer (some ⟨b, 0, none⟩), .int .i32 x] w (InsPost w (.node b 0 (k, d, h) l r) x) := by
  have hT := hi.2.1
  obtain ⟨t0, t1, t2, t3, t4, tf⟩ := nodeAt hT
  obtain ⟨ul, fl⟩ := ptr_form l
  obtain ⟨ur, fr⟩ := ptr_form r
  have HH : Hid (In w (.node b 0 (k, d, h) l r) ∧ Avl (.node b 0 (k, d, h) l r) ∧ Srt (toL (.node b 0 (k, d, h) l r)) ∧ DataOk (.node b 0 (k, d, h) l r) ∧ x = k) := ⟨hi, ha, hs, hd, hx⟩
  have hxk : (x == k) = true := by simpa using hx
  have hdd : (∃ t v, d = .iface t v) ∨ d = .nilIface := hd.1
  clear hi ha hs hd hx hT
  rcases hdd with ⟨t, v, rfl⟩ | rfl
  all_goals
    go_enter Try.func80, Try.ntmps80
    go_wp2
    go_ret3
    obtain ⟨hi, ha, hs, hd, hx⟩ := HH.out
    refine ⟨.node w.heap.size 0 (k, _, h) l r, w.heap.size, _, rfl, ?_, ha, hd, ⟨_, put_same (o := 0) hs hx⟩, .inl ⟨rfl, hx.symm⟩, Nat.le_refl _, Nat.le_refl _, (Kept.refl _ _).alloc _, ?_, .inl rfl⟩
    · refine ⟨rfl, ?_, hi.2.2.1.ext ((Kept.refl _ _).alloc _), hi.2.2.2.ext ((Kept.refl _ _).alloc _)⟩
      rw [fl, fr]
      exact alloc_new _ _
    · rw [find_eq hs hx]
      exact PtrTo.root hi


set_option maxRecDepth 100000 in
theorem aInsert_leafL (w : World) (b : Nat) (k : Int) (d : Value) (h x : Int) (r : Tr) (hi : In w (.node b 0 (k, d, h) .nil r)) (ha : Avl (.node b 0 (k, d, h) .nil r)) (hs : Srt (toL (.node b 0 (k, d, h) .nil r))) (hd : DataOk (.node b 0 (k, d, h) .nil r)) (hx : x < k) :
    Calls Try.prog 80 #[.pointer (some ⟨b, 0, none⟩), .int .i32 x] w (InsPost w (.node b 0 (k, d, h) .nil r) x) := by
  have hT := hi.2.1
  obtain ⟨t0, t1, t2, t3, t4, tf⟩ := nodeAt hT
  simp only [Deep.BT.ptr] at t0
  have HC : Hid (Calls Try.prog 90 #[.pointer (some ⟨b, 0, none⟩)] w (CopyPost w (nodeObj (.pointer none) r.ptr d k h))) := copy_abs w b _ _ d k h ⟨_, rfl⟩ (ptr_form r) hd.1 hT
  obtain ⟨ur, fr⟩ := ptr_form r
  have HH : Hid (In w (.node b 0 (k, d, h) .nil r) ∧ Avl (.node b 0 (k, d, h) .nil r) ∧ Srt (toL (.node b 0 (k, d, h) .nil r)) ∧ DataOk (.node b 0 (k, d, h) .nil r) ∧ x < k) := ⟨hi, ha, hs, hd, hx⟩
  have hxk : (x == k) = false := by simp; omega
  clear hi ha hs hd hT
  go_enter Try.func80, Try.ntmps80
  go_wp2_with fail
  refine HC.out.mono ?_
  rintro e W1 ⟨rfl, g1, g2, g3⟩
  have HG : Hid (W1.heap[w.heap.size]? = some (nodeObj (.pointer none) r.ptr d k h) ∧ Kept Non w W1 ∧ w.heap.size < W1.heap.size) := ⟨g1, g2, g3⟩
  clear g1 g2 g3 t0 t1 t2 t3 t4 tf
  go_wp2_with fail
  refine (makeNode_abs _ _).mono ?_
  rintro e W2 ⟨rfl, g1, g2, g3⟩
  have g4 : W2.heap[w.heap.size]? = some (nodeObj (.pointer none) r.ptr d k h) := (g2.block _ HG.out.2.2 (fun h => h)).trans HG.out.1
  obtain ⟨t0, t1, t2, t3, t4, tf⟩ := nodeAt g4
  have HG2 : Hid (W2.heap[w.heap.size]? = some (nodeObj (.pointer none) r.ptr d k h) ∧ W2.heap[W1.heap.size]? = some (nodeObj (.pointer none) (.pointer none) .nilIface x 1) ∧ Kept Non w W2) := ⟨g4, g1, HG.out.2.1.trans g2⟩
  clear g1 g2 g3 g4
  go_wp2
  go_ret3
  obtain ⟨hi, ha, hs, hd, hx⟩ := HH.out
  obtain ⟨_, g2, g3⟩ := HG.out
  obtain ⟨q1, q2, q3⟩ := HG2.out
  have hne : W1.heap.size ≠ w.heap.size := by omega
  have hK : Kept Non w ((W2.setCell ⟨w.heap.size, 0, none⟩ (.pointer (some ⟨W1.heap.size, 0, none⟩))).setCell ⟨w.heap.size, 4, none⟩ (.int .i8 2)) := (q3.setCell _ _ (fun h => absurd h (Nat.lt_irrefl _))).setCell _ _ (fun h => absurd h (Nat.lt_irrefl _))
  refine ⟨.node w.heap.size 0 (k, d, 2) (.node W1.heap.size 0 (x, .nilIface, 1) .nil .nil) r, W1.heap.size, _, rfl, ?_, ?_, ?_, ⟨.nilIface, ?_⟩, ?_, Nat.le_of_lt g3, Nat.le_refl _, hK, ?_, ?_⟩
  · refine ⟨rfl, ?_, ⟨rfl, ?_, trivial, trivial⟩, hi.2.2.2.ext hK⟩
    · exact set_block (set_block q1 0 _) 4 _
    · exact (set_other hne).trans ((set_other hne).trans q2)
  · obtain ⟨a1, a2, a3, a4, a5⟩ := ha
    simp only [ht] at a2 a3
    have hr0 := Avl.ht_nonneg (T := r) a5
    have hrr : ht r ≤ 1 := a3
    refine avl_mk ?_ ?_ ?_ ⟨rfl, by simp [ht], by simp [ht], trivial, trivial⟩ a5
    all_goals (simp only [ht_node]; omega)
  · exact ⟨hd.1, ⟨.inr rfl, trivial, trivial⟩, hd.2.2⟩
  · rw [put_lt hs hx]; rfl
  · exact .inr (.inl (.inl ⟨rfl, rfl⟩))
  · rw [find_lt hs hx]
    exact .inl ⟨rfl, rfl⟩
  · obtain ⟨a1, a2, a3, a4, a5⟩ := ha
    have hr0 := Avl.ht_nonneg (T := r) a5
    simp only [ht_node]
    simp only [ht] at a1 a2 a3
    have h1 : h = 1 + max 0 (ht r) := a1
    have hrr : ht r ≤ 1 := a3
    omega


set_option maxRecDepth 100000 in
theorem aInsert_leafR (w : World) (b : Nat) (k : Int) (d : Value) (h x : Int) (r : Tr) (hi : In w (.node b 0 (k, d, h) r .nil)) (ha : Avl (.node b 0 (k, d, h) r .nil)) (hs : Srt (toL (.node b 0 (k, d, h) r .nil))) (hd : DataOk (.node b 0 (k, d, h) r .nil)) (hx : k < x) :
    Calls Try.prog 80 #[.pointer (some ⟨b, 0, none⟩), .int .i32 x] w (InsPost w (.node b 0 (k, d, h) r .nil) x) := by
  have hT := hi.2.1
  obtain ⟨t0, t1, t2, t3, t4, tf⟩ := nodeAt hT
  simp only [Deep.BT.ptr] at t1
  have HC : Hid (Calls Try.prog 90 #[.pointer (some ⟨b, 0, none⟩)] w (CopyPost w (nodeObj r.ptr (.pointer none) d k h))) := copy_abs w b _ _ d k h (ptr_form r) ⟨_, rfl⟩ hd.1 hT
  obtain ⟨ur, fr⟩ := ptr_form r
  have HH : Hid (In w (.node b 0 (k, d, h) r .nil) ∧ Avl (.node b 0 (k, d, h) r .nil) ∧ Srt (toL (.node b 0 (k, d, h) r .nil)) ∧ DataOk (.node b 0 (k, d, h) r .nil) ∧ k < x) := ⟨hi, ha, hs, hd, hx⟩
  have hxk : (x == k) = false := by simp; omega
  clear hi ha hs hd hT
  go_enter Try.func80, Try.ntmps80
  go_wp2_with fail
  refine HC.out.mono ?_
  rintro e W1 ⟨rfl, g1, g2, g3⟩
  have HG : Hid (W1.heap[w.heap.size]? = some (nodeObj r.ptr (.pointer none) d k h) ∧ Kept Non w W1 ∧ w.heap.size < W1.heap.size) := ⟨g1, g2, g3⟩
  clear g1 g2 g3 t0 t1 t2 t3 t4 tf
  go_wp2_with fail
  refine (makeNode_abs _ _).mono ?_
  rintro e W2 ⟨rfl, g1, g2, g3⟩
  have g4 : W2.heap[w.heap.size]? = some (nodeObj r.ptr (.pointer none) d k h) := (g2.block _ HG.out.2.2 (fun h => h)).trans HG.out.1
  obtain ⟨t0, t1, t2, t3, t4, tf⟩ := nodeAt g4
  have HG2 : Hid (W2.heap[w.heap.size]? = some (nodeObj r.ptr (.pointer none) d k h) ∧ W2.heap[W1.heap.size]? = some (nodeObj (.pointer none) (.pointer none) .nilIface x 1) ∧ Kept Non w W2) := ⟨g4, g1, HG.out.2.1.trans g2⟩
  clear g1 g2 g3 g4
  go_wp2
  go_ret3
  obtain ⟨hi, ha, hs, hd, hx⟩ := HH.out
  obtain ⟨_, g2, g3⟩ := HG.out
  obtain ⟨q1, q2, q3⟩ := HG2.out
  have hne : W1.heap.size ≠ w.heap.size := by omega
  have hK : Kept Non w ((W2.setCell ⟨w.heap.size, 1, none⟩ (.pointer (some ⟨W1.heap.size, 0, none⟩))).setCell ⟨w.heap.size, 4, none⟩ (.int .i8 2)) := (q3.setCell _ _ (fun h => absurd h (Nat.lt_irrefl _))).setCell _ _ (fun h => absurd h (Nat.lt_irrefl _))
  refine ⟨.node w.heap.size 0 (k, d, 2) r (.node W1.heap.size 0 (x, .nilIface, 1) .nil .nil), W1.heap.size, _, rfl, ?_, ?_, ?_, ⟨.nilIface, ?_⟩, ?_, Nat.le_of_lt g3, Nat.le_refl _, hK, ?_, ?_⟩
  · refine ⟨rfl, ?_, hi.2.2.1.ext hK, rfl, ?_, trivial, trivial⟩
    · exact set_block (set_block q1 1 _) 4 _
    · exact (set_other hne).trans ((set_other hne).trans q2)
  · obtain ⟨a1, a2, a3, a4, a5⟩ := ha
    simp only [ht] at a2 a3
    have hr0 := Avl.ht_nonneg (T := r) a4
    have hrr : ht r ≤ 1 := a2
    refine avl_mk ?_ ?_ ?_ a4 ⟨rfl, by simp [ht], by simp [ht], trivial, trivial⟩
    all_goals (simp only [ht_node]; omega)
  · exact ⟨hd.1, hd.2.1, .inr rfl, trivial, trivial⟩
  · rw [put_gt hs hx]; rfl
  · exact .inr (.inr (.inl ⟨rfl, rfl⟩))
  · rw [find_gt hs hx]
    exact .inl ⟨rfl, rfl⟩
  · obtain ⟨a1, a2, a3, a4, a5⟩ := ha
    have hr0 := Avl.ht_nonneg (T := r) a4
    simp only [ht_node]
    simp only [ht] at a1 a2 a3
    have h1 : h = 1 + max (ht r) 0 := a1
    have hrr : ht r ≤ 1 := a2
    omega


theorem insHighL (w W : World) (tb nb : Nat) (T1 r : Tr) (d : Value) (k h x : Int) (hT : W.heap[tb]? = some (nodeObj T1.ptr r.ptr d k h)) (i1 : In W T1) (ir : In W r) (a1 : Avl T1) (ar : Avl r)
    (hd : DataOk (.node tb 0 (k, d, h) T1 r)) (hs : Srt (toL (.node tb 0 (k, d, h) T1 r))) (hh : ht T1 = ht r + 2) (hb : ht r ≤ 90) (hn : HasNode nb x T1) (hw : w.heap.size ≤ tb) (hnb : w.heap.size ≤ nb) (hr : RootP (fun b => w.heap.size ≤ b) T1) (hK : Kept Non w W) :
    Calls Try.prog 92 #[.pointer (some ⟨tb, 0, none⟩), .pointer (some ⟨nb, 0, none⟩)] W (HighIns w (.node tb 0 (k, d, h) T1 r) x nb (ht r)) := by
  cases T1 with
  | nil => exact hr.elim
  | node lb o a' L1 R1 =>
    obtain ⟨k', d', h'⟩ := a'
    have ho : o = 0 := i1.1
    subst ho
    obtain ⟨l2, r2, d2, k2, h2, ho2⟩ := i1.obj hn.blk
    refine (aLeftIsHigh_any W tb lb L1 R1 r d d' k k' h h' (some ⟨nb, 0, none⟩) (.inr ⟨nb, _, _, rfl, ho2⟩) ⟨rfl, hT, i1, ir⟩ hs hd a1 ar hh hb).mono ?_
    rintro e w' ⟨T', h1, h2, h3, h4, h5, h6, h7, h8, h9⟩
    have hr' : w.heap.size ≤ lb := hr
    refine ⟨T', h1, h2, h3, h4, h5, h6, hK.trans' h7 (fun i hi h => ?_), h8.mono (fun b hb => ?_), h9 nb x rfl (.inr (.inl hn))⟩
    · rcases h with rfl | rfl | h
      · omega
      · omega
      · cases h; omega
    · rcases hb with rfl | hb | hb
      · exact hr'
      · exact Nat.le_trans hK.size hb
      · cases hb; exact hnb


theorem insHighR (w W : World) (tb nb : Nat) (T1 r : Tr) (d : Value) (k h x : Int) (hT : W.heap[tb]? = some (nodeObj r.ptr T1.ptr d k h)) (i1 : In W T1) (ir : In W r) (a1 : Avl T1) (ar : Avl r)
    (hd : DataOk (.node tb 0 (k, d, h) r T1)) (hs : Srt (toL (.node tb 0 (k, d, h) r T1))) (hh : ht T1 = ht r + 2) (hb : ht r ≤ 90) (hn : HasNode nb x T1) (hw : w.heap.size ≤ tb) (hnb : w.heap.size ≤ nb) (hr : RootP (fun b => w.heap.size ≤ b) T1) (hK : Kept Non w W) :
    Calls Try.prog 93 #[.pointer (some ⟨tb, 0, none⟩), .pointer (some ⟨nb, 0, none⟩)] W (HighIns w (.node tb 0 (k, d, h) r T1) x nb (ht r)) := by
  cases T1 with
  | nil => exact hr.elim
  | node lb o a' L1 R1 =>
    obtain ⟨k', d', h'⟩ := a'
    have ho : o = 0 := i1.1
    subst ho
    obtain ⟨l2, r2, d2, k2, h2, ho2⟩ := i1.obj hn.blk
    refine (aRightIsHigh_any W tb lb R1 L1 r d d' k k' h h' (some ⟨nb, 0, none⟩) (.inr ⟨nb, _, _, rfl, ho2⟩) ⟨rfl, hT, ir, i1⟩ hs hd a1 ar hh hb).mono ?_
    rintro e w' ⟨T', h1, h2, h3, h4, h5, h6, h7, h8, h9⟩
    have hr' : w.heap.size ≤ lb := hr
    refine ⟨T', h1, h2, h3, h4, h5, h6, hK.trans' h7 (fun i hi h => ?_), h8.mono (fun b hb => ?_), h9 nb x rfl (.inr (.inr hn))⟩
    · rcases h with rfl | rfl | h
      · omega
      · omega
      · cases h; omega
    · rcases hb with rfl | hb | hb
      · exact hr'
      · exact Nat.le_trans hK.size hb
      · cases hb; exact hnb


set_option maxRecDepth 100000 in
set_option maxHeartbeats 1000000 in
theorem aInsert_recL (w : World) (b bl : Nat) (k : Int) (d : Value) (h x : Int) (al : Pl) (ll lr r : Tr) (hi : In w (.node b 0 (k, d, h) (.node bl 0 al ll lr) r)) (ha : Avl (.node b 0 (k, d, h) (.node bl 0 al ll lr) r)) (hs : Srt (toL (.node b 0 (k, d, h) (.node bl 0 al ll lr) r))) (hd : DataOk (.node b 0 (k, d, h) (.node bl 0 al ll lr) r)) (hb : h ≤ 80) (hx : x < k)
    (ih : Calls Try.prog 80 #[.pointer (some ⟨bl, 0, none⟩), .int .i32 x] w (InsPost w (.node bl 0 al ll lr) x)) :
    Calls Try.prog 80 #[.pointer (some ⟨b, 0, none⟩), .int .i32 x] w (InsPost w (.node b 0 (k, d, h) (.node bl 0 al ll lr) r) x) := by
  have hT := hi.2.1
  obtain ⟨t0, t1, t2, t3, t4, tf⟩ := nodeAt hT
  simp only [Deep.BT.ptr] at t0
  obtain ⟨ur, fr⟩ := ptr_form r
  have HI : Hid (Calls Try.prog 80 #[.pointer (some ⟨bl, 0, none⟩), .int .i32 x] w (InsPost w (.node bl 0 al ll lr) x)) := ih
  have HH : Hid (In w (.node b 0 (k, d, h) (.node bl 0 al ll lr) r) ∧ Avl (.node b 0 (k, d, h) (.node bl 0 al ll lr) r) ∧ Srt (toL (.node b 0 (k, d, h) (.node bl 0 al ll lr) r)) ∧ DataOk (.node b 0 (k, d, h) (.node bl 0 al ll lr) r) ∧ x < k ∧ h ≤ 80) := ⟨hi, ha, hs, hd, hx, hb⟩
  have hxk : (x == k) = false := by simp; omega
  clear hi ha hs hd hT ih
  go_enter Try.func80, Try.ntmps80
  go_wp2_with fail
  refine HI.out.mono ?_
  rintro e W1 ⟨T1, nb, old, rfl, hI⟩
  obtain ⟨hi, ha, hs, hd, hx', hb'⟩ := HH.out
  have hK1 : Kept Non w W1 := hI.2.2.2.2.2.2.2.1
  have hT1 : W1.heap[b]? = some (nodeObj (.pointer (some ⟨bl, 0, none⟩)) r.ptr d k h) := (hK1.block b (block_lt hi.2.1) (fun h => h)).trans hi.2.1
  have HC : Hid (Calls Try.prog 90 #[.pointer (some ⟨b, 0, none⟩)] W1 (CopyPost W1 (nodeObj (.pointer (some ⟨bl, 0, none⟩)) r.ptr d k h))) := copy_abs W1 b _ _ d k h ⟨_, rfl⟩ (ptr_form r) hd.1 hT1
  obtain ⟨u1, f1⟩ := ptr_form T1
  have HJ : Hid (In W1 T1 ∧ Avl T1 ∧ DataOk T1 ∧ (∃ v0, toL T1 = putL x v0 (toL (.node bl 0 al ll lr))) ∧ HasNode nb x T1 ∧ w.heap.size ≤ nb ∧ RootP (fun b => w.heap.size ≤ b) T1 ∧ Kept Non w W1 ∧ PtrTo w old ((toL (.node bl 0 al ll lr)).find? (atKey x)) ∧ (ht T1 = al.2.2 ∨ ht T1 = al.2.2 + 1)) := hI
  clear hI hi ha hs hd hx' hb' hK1 hT1 t0 t1 t2 t3 t4 tf
  rw [f1]
  go_wp2_with fail
  refine HC.out.mono ?_
  rintro e W2 ⟨rfl, g1, g2, g3⟩
  obtain ⟨t0, t1, t2, t3, t4, tf⟩ := nodeAt g1
  have HG : Hid (W2.heap[W1.heap.size]? = some (nodeObj (.pointer (some ⟨bl, 0, none⟩)) r.ptr d k h) ∧ Kept Non W1 W2 ∧ W1.heap.size < W2.heap.size) := ⟨g1, g2, g3⟩
  clear g1 g2 g3
  go_wp2_with fail
  refine wp_gen (fun W => W.heap[W1.heap.size]? = some (nodeObj (.pointer u1) r.ptr d k h) ∧ Kept Non W1 W) ⟨?_, ?_⟩ ?_
  · exact set_block HG.out.1 0 _
  · exact HG.out.2.1.setCell _ _ (fun h => absurd h (Nat.lt_irrefl _))
  clear t0 t1 t2 t3 t4 tf HG
  rintro W ⟨hT, hK⟩
  obtain ⟨t0, t1, t2, t3, t4, tf⟩ := nodeAt hT
  obtain ⟨hi, ha, hs, hd, hx', hb'⟩ := HH.out
  obtain ⟨j1, j2, j3, j4, j5, j6, j7, j8, j9, j10⟩ := HJ.out
  obtain ⟨a1, a2, a3, a4, a5⟩ := ha
  have hr : Avl r := a5
  have hr0 := Avl.ht_nonneg hr
  have hl0 := Avl.ht_nonneg j2
  simp only [ht_node] at a1 a2 a3
  have iT1 : In W.drew T1 := (j1.ext hK).drew
  have ir : In W.drew r := ((hi.2.2.2).ext (j8.trans hK)).drew
  have c1 := height_at W.drew T1 _ f1 iT1
  have cr := height_at W.drew r _ fr ir
  have g1 : IntKind.i8.wrap (1 + ht r) = 1 + ht r := wrap8 (by omega)
  have hord : ht T1 ≤ 81 ∧ ht r ≤ 80 := by omega
  have hw1 : w.heap.size ≤ W1.heap.size := j8.size
  obtain ⟨v0, j4⟩ := j4
  have hL0 : toL (.node W1.heap.size 0 (k, d, h) T1 r) = putL x v0 (toL (.node b 0 (k, d, h) (.node bl 0 al ll lr) r)) := by rw [put_lt hs hx', toL_node, j4]
  have hTf : W.heap[W1.heap.size]? = some (nodeObj T1.ptr r.ptr d k h) := by rw [f1]; exact hT
  have hKw : Kept Non w W := j8.trans hK
  have hdd : DataOk (.node W1.heap.size 0 (k, d, h) T1 r) := ⟨hd.1, j3, hd.2.2⟩
  have HF : Hid (ht T1 = ht r + 2 → Calls Try.prog 92 #[.pointer (some ⟨W1.heap.size, 0, none⟩), .pointer (some ⟨nb, 0, none⟩)] W.drew (HighIns w (.node W1.heap.size 0 (k, d, h) T1 r) x nb (ht r))) := fun hh =>
    insHighL w W.drew W1.heap.size nb T1 r d k h x hTf iT1 ir j2 hr hdd (by rw [hL0]; exact hs.put x v0) hh (by omega) j5 hw1 j6 j7 hKw.drew
  have HW : Hid (W.heap[W1.heap.size]? = some (nodeObj T1.ptr r.ptr d k h) ∧ Kept Non W1 W ∧ Kept Non w W ∧ w.heap.size ≤ W1.heap.size ∧ In W T1 ∧ In W r ∧ Avl T1 ∧ Avl r ∧ DataOk (.node W1.heap.size 0 (k, d, h) T1 r) ∧ toL (.node W1.heap.size 0 (k, d, h) T1 r) = putL x v0 (toL (.node b 0 (k, d, h) (.node bl 0 al ll lr) r))) := ⟨hTf, hK, hKw, hw1, j1.ext hK, (hi.2.2.2).ext hKw, j2, hr, hdd, hL0⟩
  have HA : Hid (h = 1 + max al.2.2 (ht r) ∧ al.2.2 ≤ ht r + 1 ∧ ht r ≤ al.2.2 + 1 ∧ (ht T1 = al.2.2 ∨ ht T1 = al.2.2 + 1)) := ⟨by omega, by omega, by omega, j10⟩
  have hn2 : 1 + ht r < ht T1 → ht T1 = ht r + 2 := by omega
  obtain ⟨m, hm⟩ : ∃ m, m = max (ht T1) (ht r) := ⟨_, rfl⟩
  have g2 : (if ht T1 < ht r then ht r else ht T1) = m := by rw [hm]; split <;> omega
  have g3 : IntKind.i8.wrap (1 + m) = 1 + m := wrap8 (by omega)
  have HM : Hid (m = max (ht T1) (ht r)) := hm
  clear hi hs hd hx' hb' a1 a2 a3 a4 a5 j1 j2 j3 j4 j5 j6 j7 j8 j9 j10 hr hT hK iT1 ir hL0 hTf hKw hdd hw1 hm
  refine wp_region_still_lit (by kernel_rfl) (by kernel_rfl) ?_
  iterate 1 still_step
  still_call c1
  iterate 4 still_step
  still_call cr
  iterate 2 still_step
  refine wpStill_nil ?_
  by_cases hhigh : 1 + ht r < ht T1
  · have hh2 := hn2 hhigh
    have HF2 : Hid (Calls Try.prog 92 #[.pointer (some ⟨W1.heap.size, 0, none⟩), .pointer (some ⟨nb, 0, none⟩)] W.drew (HighIns w (.node W1.heap.size 0 (k, d, h) T1 r) x nb (ht r))) := HF.out hh2
    have HE2 : Hid (ht T1 = ht r + 2) := hh2
    clear hh2 hn2 g2 g3 c1 cr t0 t1 t2 t3 t4 tf
    go_wp2_with fail
    refine HF2.out.mono ?_
    rintro e W4 ⟨T', rfl, z1, z2, z3, z4, z5, z6, z7, z8⟩
    go_wp2
    go_ret3
    obtain ⟨hi, ha, hs, hd, hx', hb'⟩ := HH.out
    obtain ⟨_, _, _, _, _, _, _, _, _, p10⟩ := HW.out
    obtain ⟨_, _, _, _, _, j6, _, _, j9, j10⟩ := HJ.out
    obtain ⟨v1, v2, v3, v4⟩ := HA.out
    have v5 := HE2.out
    refine ⟨T', nb, old, rfl, z1, z3, z4, ⟨v0, z2.trans p10⟩, z8, j6, z7, z6, ?_, ?_⟩
    · rw [find_lt hs hx']; exact j9
    · simp only [ht_node]; omega
  · clear HF hn2
    go_wp2_with fail
    refine wp_gen (fun V => V.heap[W1.heap.size]? = some (nodeObj T1.ptr r.ptr d k h) ∧ Kept Non w V ∧ Kept Non W V) ⟨HW.out.1, HW.out.2.2.1.drew, (Kept.refl _ _).drew⟩ ?_
    clear t0 t1 t2 t3 t4 tf
    rintro V ⟨hV, hVw, hVK⟩
    have c1' := height_at V.drew T1 _ f1 (HW.out.2.2.2.2.1.ext hVK).drew
    have cr' := height_at V.drew r _ fr (HW.out.2.2.2.2.2.1.ext hVK).drew
    obtain ⟨t0, t1, t2, t3, t4, tf⟩ := nodeAt hV
    have HV : Hid (V.heap[W1.heap.size]? = some (nodeObj T1.ptr r.ptr d k h) ∧ Kept Non w V ∧ Kept Non W V) := ⟨hV, hVw, hVK⟩
    clear hV hVw hVK
    refine wp_region_still_tail 15 (by kernel_rfl) (by kernel_rfl) ?_
    simp only [List.take_succ_cons, List.take_zero, List.drop_succ_cons, List.drop_zero]
    iterate 5 still_step
    still_call c1'
    iterate 4 still_step
    still_call cr'
    iterate 4 still_step
    refine wpStill_nil ?_
    clear c1 cr c1' cr'
    go_wp2
    go_ret3
    obtain ⟨hi, ha, hs, hd, hx', hb'⟩ := HH.out
    obtain ⟨p1, p2, p3, p4, p5, p6, p7, p8, p9, p10⟩ := HW.out
    obtain ⟨_, _, _, _, j5, j6, _, _, j9, j10⟩ := HJ.out
    obtain ⟨v1, v2, v3, v4⟩ := HA.out
    have v5 := HM.out
    have hK1 : Kept Non w (V.setCell ⟨W1.heap.size, 4, none⟩ (.int .i8 (1 + m))).drew := (HV.out.2.1.setCell _ _ (fun hlt => absurd hlt (Nat.not_lt.2 p4))).drew
    have hK2 : Kept (One W1.heap.size) W (V.setCell ⟨W1.heap.size, 4, none⟩ (.int .i8 (1 + m))).drew := ((HV.out.2.2.mono (S' := One W1.heap.size) (fun _ _ h => h.elim)).setCell ⟨W1.heap.size, 4, none⟩ _ (fun _ => rfl)).drew
    refine ⟨.node W1.heap.size 0 (k, d, 1 + m) T1 r, nb, old, rfl, ?_, ?_, p9, ⟨v0, p10⟩, ?_, j6, p4, hK1, ?_, ?_⟩
    · refine ⟨rfl, set_block HV.out.1 4 _, ?_, ?_⟩
      · exact (p5).kept hK2 (fun b hb e => by have e' : b = W1.heap.size := e; subst e'; exact absurd ((HJ.out.1).blk_lt hb) (Nat.lt_irrefl _))
      · exact (p6).kept hK2 (fun b hb e => by have e' : b = W1.heap.size := e; subst e'; exact absurd (((hi.2.2.2.ext HJ.out.2.2.2.2.2.2.2.1)).blk_lt hb) (Nat.lt_irrefl _))
    · refine avl_mk ?_ ?_ ?_ p7 p8
      all_goals (first | omega | (simp only; omega))
    · exact .inr (.inl j5)
    · rw [find_lt hs hx']; exact j9
    · simp only [ht_node]; omega


set_option maxRecDepth 100000 in
set_option maxHeartbeats 1000000 in
theorem aInsert_recR (w : World) (b bl : Nat) (k : Int) (d : Value) (h x : Int) (al : Pl) (ll lr r : Tr) (hi : In w (.node b 0 (k, d, h) r (.node bl 0 al ll lr))) (ha : Avl (.node b 0 (k, d, h) r (.node bl 0 al ll lr))) (hs : Srt (toL (.node b 0 (k, d, h) r (.node bl 0 al ll lr)))) (hd : DataOk (.node b 0 (k, d, h) r (.node bl 0 al ll lr))) (hb : h ≤ 80) (hx : k < x)
    (ih : Calls Try.prog 80 #[.pointer (some ⟨bl, 0, none⟩), .int .i32 x] w (InsPost w (.node bl 0 al ll lr) x)) :
    Calls Try.prog 80 #[.pointer (some ⟨b, 0, none⟩), .int .i32 x] w (InsPost w (.node b 0 (k, d, h) r (.node bl 0 al ll lr)) x) := by
  have hT := hi.2.1
  obtain ⟨t0, t1, t2, t3, t4, tf⟩ := nodeAt hT
  simp only [Deep.BT.ptr] at t1
  obtain ⟨ur, fr⟩ := ptr_form r
  have HI : Hid (Calls Try.prog 80 #[.pointer (some ⟨bl, 0, none⟩), .int .i32 x] w (InsPost w (.node bl 0 al ll lr) x)) := ih
  have HH : Hid (In w (.node b 0 (k, d, h) r (.node bl 0 al ll lr)) ∧ Avl (.node b 0 (k, d, h) r (.node bl 0 al ll lr)) ∧ Srt (toL (.node b 0 (k, d, h) r (.node bl 0 al ll lr))) ∧ DataOk (.node b 0 (k, d, h) r (.node bl 0 al ll lr)) ∧ k < x ∧ h ≤ 80) := ⟨hi, ha, hs, hd, hx, hb⟩
  have hxk : (x == k) = false := by simp; omega
  clear hi ha hs hd hT ih
  go_enter Try.func80, Try.ntmps80
  go_wp2_with fail
  refine HI.out.mono ?_
  rintro e W1 ⟨T1, nb, old, rfl, hI⟩
  obtain ⟨hi, ha, hs, hd, hx', hb'⟩ := HH.out
  have hK1 : Kept Non w W1 := hI.2.2.2.2.2.2.2.1
  have hT1 : W1.heap[b]? = some (nodeObj r.ptr (.pointer (some ⟨bl, 0, none⟩)) d k h) := (hK1.block b (block_lt hi.2.1) (fun h => h)).trans hi.2.1
  have HC : Hid (Calls Try.prog 90 #[.pointer (some ⟨b, 0, none⟩)] W1 (CopyPost W1 (nodeObj r.ptr (.pointer (some ⟨bl, 0, none⟩)) d k h))) := copy_abs W1 b _ _ d k h (ptr_form r) ⟨_, rfl⟩ hd.1 hT1
  obtain ⟨u1, f1⟩ := ptr_form T1
  have HJ : Hid (In W1 T1 ∧ Avl T1 ∧ DataOk T1 ∧ (∃ v0, toL T1 = putL x v0 (toL (.node bl 0 al ll lr))) ∧ HasNode nb x T1 ∧ w.heap.size ≤ nb ∧ RootP (fun b => w.heap.size ≤ b) T1 ∧ Kept Non w W1 ∧ PtrTo w old ((toL (.node bl 0 al ll lr)).find? (atKey x)) ∧ (ht T1 = al.2.2 ∨ ht T1 = al.2.2 + 1)) := hI
  clear hI hi ha hs hd hx' hb' hK1 hT1 t0 t1 t2 t3 t4 tf
  rw [f1]
  go_wp2_with fail
  refine HC.out.mono ?_
  rintro e W2 ⟨rfl, g1, g2, g3⟩
  obtain ⟨t0, t1, t2, t3, t4, tf⟩ := nodeAt g1
  have HG : Hid (W2.heap[W1.heap.size]? = some (nodeObj r.ptr (.pointer (some ⟨bl, 0, none⟩)) d k h) ∧ Kept Non W1 W2 ∧ W1.heap.size < W2.heap.size) := ⟨g1, g2, g3⟩
  clear g1 g2 g3
  go_wp2_with fail
  refine wp_gen (fun W => W.heap[W1.heap.size]? = some (nodeObj r.ptr (.pointer u1) d k h) ∧ Kept Non W1 W) ⟨?_, ?_⟩ ?_
  · exact set_block HG.out.1 1 _
  · exact HG.out.2.1.setCell _ _ (fun h => absurd h (Nat.lt_irrefl _))
  clear t0 t1 t2 t3 t4 tf HG
  rintro W ⟨hT, hK⟩
  obtain ⟨t0, t1, t2, t3, t4, tf⟩ := nodeAt hT
  obtain ⟨hi, ha, hs, hd, hx', hb'⟩ := HH.out
  obtain ⟨j1, j2, j3, j4, j5, j6, j7, j8, j9, j10⟩ := HJ.out
  obtain ⟨a1, a2, a3, a4, a5⟩ := ha
  have hr : Avl r := a4
  have hr0 := Avl.ht_nonneg hr
  have hl0 := Avl.ht_nonneg j2
  simp only [ht_node] at a1 a2 a3
  have iT1 : In W.drew T1 := (j1.ext hK).drew
  have ir : In W.drew r := ((hi.2.2.1).ext (j8.trans hK)).drew
  have c1 := height_at W.drew T1 _ f1 iT1
  have cr := height_at W.drew r _ fr ir
  have g1 : IntKind.i8.wrap (1 + ht r) = 1 + ht r := wrap8 (by omega)
  have hord : ht T1 ≤ 81 ∧ ht r ≤ 80 := by omega
  have hw1 : w.heap.size ≤ W1.heap.size := j8.size
  obtain ⟨v0, j4⟩ := j4
  have hL0 : toL (.node W1.heap.size 0 (k, d, h) r T1) = putL x v0 (toL (.node b 0 (k, d, h) r (.node bl 0 al ll lr))) := by rw [put_gt hs hx', toL_node, j4]
  have hTf : W.heap[W1.heap.size]? = some (nodeObj r.ptr T1.ptr d k h) := by rw [f1]; exact hT
  have hKw : Kept Non w W := j8.trans hK
  have hdd : DataOk (.node W1.heap.size 0 (k, d, h) r T1) := ⟨hd.1, hd.2.1, j3⟩
  have HF : Hid (ht T1 = ht r + 2 → Calls Try.prog 93 #[.pointer (some ⟨W1.heap.size, 0, none⟩), .pointer (some ⟨nb, 0, none⟩)] W.drew (HighIns w (.node W1.heap.size 0 (k, d, h) r T1) x nb (ht r))) := fun hh =>
    insHighR w W.drew W1.heap.size nb T1 r d k h x hTf iT1 ir j2 hr hdd (by rw [hL0]; exact hs.put x v0) hh (by omega) j5 hw1 j6 j7 hKw.drew
  have HW : Hid (W.heap[W1.heap.size]? = some (nodeObj r.ptr T1.ptr d k h) ∧ Kept Non W1 W ∧ Kept Non w W ∧ w.heap.size ≤ W1.heap.size ∧ In W T1 ∧ In W r ∧ Avl T1 ∧ Avl r ∧ DataOk (.node W1.heap.size 0 (k, d, h) r T1) ∧ toL (.node W1.heap.size 0 (k, d, h) r T1) = putL x v0 (toL (.node b 0 (k, d, h) r (.node bl 0 al ll lr)))) := ⟨hTf, hK, hKw, hw1, j1.ext hK, (hi.2.2.1).ext hKw, j2, hr, hdd, hL0⟩
  have HA : Hid (h = 1 + max (ht r) al.2.2 ∧ al.2.2 ≤ ht r + 1 ∧ ht r ≤ al.2.2 + 1 ∧ (ht T1 = al.2.2 ∨ ht T1 = al.2.2 + 1)) := ⟨by omega, by omega, by omega, j10⟩
  have hn2 : 1 + ht r < ht T1 → ht T1 = ht r + 2 := by omega
  obtain ⟨m, hm⟩ : ∃ m, m = max (ht r) (ht T1) := ⟨_, rfl⟩
  have g2 : (if ht r < ht T1 then ht T1 else ht r) = m := by rw [hm]; split <;> omega
  have g3 : IntKind.i8.wrap (1 + m) = 1 + m := wrap8 (by omega)
  have HM : Hid (m = max (ht r) (ht T1)) := hm
  clear hi hs hd hx' hb' a1 a2 a3 a4 a5 j1 j2 j3 j4 j5 j6 j7 j8 j9 j10 hr hT hK iT1 ir hL0 hTf hKw hdd hw1 hm
  refine wp_region_still_lit (by kernel_rfl) (by kernel_rfl) ?_
  iterate 1 still_step
  still_call c1
  iterate 4 still_step
  still_call cr
  iterate 2 still_step
  refine wpStill_nil ?_
  by_cases hhigh : 1 + ht r < ht T1
  · have hh2 := hn2 hhigh
    have HF2 : Hid (Calls Try.prog 93 #[.pointer (some ⟨W1.heap.size, 0, none⟩), .pointer (some ⟨nb, 0, none⟩)] W.drew (HighIns w (.node W1.heap.size 0 (k, d, h) r T1) x nb (ht r))) := HF.out hh2
    have HE2 : Hid (ht T1 = ht r + 2) := hh2
    clear hh2 hn2 g2 g3 c1 cr t0 t1 t2 t3 t4 tf
    go_wp2_with fail
    refine HF2.out.mono ?_
    rintro e W4 ⟨T', rfl, z1, z2, z3, z4, z5, z6, z7, z8⟩
    go_wp2
    go_ret3
    obtain ⟨hi, ha, hs, hd, hx', hb'⟩ := HH.out
    obtain ⟨_, _, _, _, _, _, _, _, _, p10⟩ := HW.out
    obtain ⟨_, _, _, _, _, j6, _, _, j9, j10⟩ := HJ.out
    obtain ⟨v1, v2, v3, v4⟩ := HA.out
    have v5 := HE2.out
    refine ⟨T', nb, old, rfl, z1, z3, z4, ⟨v0, z2.trans p10⟩, z8, j6, z7, z6, ?_, ?_⟩
    · rw [find_gt hs hx']; exact j9
    · simp only [ht_node]; omega
  · clear HF hn2
    go_wp2_with fail
    refine wp_gen (fun V => V.heap[W1.heap.size]? = some (nodeObj r.ptr T1.ptr d k h) ∧ Kept Non w V ∧ Kept Non W V) ⟨HW.out.1, HW.out.2.2.1.drew, (Kept.refl _ _).drew⟩ ?_
    clear t0 t1 t2 t3 t4 tf
    rintro V ⟨hV, hVw, hVK⟩
    have c1' := height_at V.drew T1 _ f1 (HW.out.2.2.2.2.1.ext hVK).drew
    have cr' := height_at V.drew r _ fr (HW.out.2.2.2.2.2.1.ext hVK).drew
    obtain ⟨t0, t1, t2, t3, t4, tf⟩ := nodeAt hV
    have HV : Hid (V.heap[W1.heap.size]? = some (nodeObj r.ptr T1.ptr d k h) ∧ Kept Non w V ∧ Kept Non W V) := ⟨hV, hVw, hVK⟩
    clear hV hVw hVK
    refine wp_region_still_tail 15 (by kernel_rfl) (by kernel_rfl) ?_
    simp only [List.take_succ_cons, List.take_zero, List.drop_succ_cons, List.drop_zero]
    iterate 5 still_step
    still_call cr'
    iterate 4 still_step
    still_call c1'
    iterate 4 still_step
    refine wpStill_nil ?_
    clear c1 cr c1' cr'
    go_wp2
    go_ret3
    obtain ⟨hi, ha, hs, hd, hx', hb'⟩ := HH.out
    obtain ⟨p1, p2, p3, p4, p5, p6, p7, p8, p9, p10⟩ := HW.out
    obtain ⟨_, _, _, _, j5, j6, _, _, j9, j10⟩ := HJ.out
    obtain ⟨v1, v2, v3, v4⟩ := HA.out
    have v5 := HM.out
    have hK1 : Kept Non w (V.setCell ⟨W1.heap.size, 4, none⟩ (.int .i8 (1 + m))).drew := (HV.out.2.1.setCell _ _ (fun hlt => absurd hlt (Nat.not_lt.2 p4))).drew
    have hK2 : Kept (One W1.heap.size) W (V.setCell ⟨W1.heap.size, 4, none⟩ (.int .i8 (1 + m))).drew := ((HV.out.2.2.mono (S' := One W1.heap.size) (fun _ _ h => h.elim)).setCell ⟨W1.heap.size, 4, none⟩ _ (fun _ => rfl)).drew
    refine ⟨.node W1.heap.size 0 (k, d, 1 + m) r T1, nb, old, rfl, ?_, ?_, p9, ⟨v0, p10⟩, ?_, j6, p4, hK1, ?_, ?_⟩
    · refine ⟨rfl, set_block HV.out.1 4 _, ?_, ?_⟩
      · exact (p6).kept hK2 (fun b hb e => by have e' : b = W1.heap.size := e; subst e'; exact absurd (((hi.2.2.1.ext HJ.out.2.2.2.2.2.2.2.1)).blk_lt hb) (Nat.lt_irrefl _))
      · exact (p5).kept hK2 (fun b hb e => by have e' : b = W1.heap.size := e; subst e'; exact absurd ((HJ.out.1).blk_lt hb) (Nat.lt_irrefl _))
    · refine avl_mk ?_ ?_ ?_ p8 p7
      all_goals (first | omega | (simp only; omega))
    · exact .inr (.inr j5)
    · rw [find_gt hs hx']; exact j9
    · simp only [ht_node]; omega


theorem aInsert_any (x : Int) : ∀ (T : Tr) (w : World), T ≠ .nil → In w T → Avl T → Srt (toL T) → DataOk T → ht T ≤ 80 →
    Calls Try.prog 80 #[T.ptr, .int .i32 x] w (InsPost w T x) := by
  intro T
  induction T with
  | nil => intro w h; exact absurd rfl h
  | node b o a l r ihl ihr =>
    intro w _ hi ha hs hd hb
    obtain ⟨k, d, h⟩ := a
    have ho : o = 0 := hi.1
    subst ho
    have hb' : h ≤ 80 := hb
    obtain ⟨a1, a2, a3, a4, a5⟩ := ha
    have a1' : h = 1 + max (ht l) (ht r) := a1
    obtain ⟨s1, s2, _⟩ := hs.parts
    rcases Int.lt_trichotomy x k with hx | hx | hx
    · cases l with
      | nil => exact aInsert_leafL w b k d h x r hi ⟨a1, a2, a3, a4, a5⟩ hs hd hx
      | node bl ol al ll lr =>
        have ho : ol = 0 := hi.2.2.1.1
        subst ho
        exact aInsert_recL w b bl k d h x al ll lr r hi ⟨a1, a2, a3, a4, a5⟩ hs hd hb' hx (ihl w (by simp) hi.2.2.1 a4 s1 hd.2.1 (by omega))
    · exact aInsert_eq w b k d h x l r hi ⟨a1, a2, a3, a4, a5⟩ hs hd hx
    · cases r with
      | nil => exact aInsert_leafR w b k d h x l hi ⟨a1, a2, a3, a4, a5⟩ hs hd hx
      | node bl ol al ll lr =>
        have ho : ol = 0 := hi.2.2.2.1
        subst ho
        exact aInsert_recR w b bl k d h x al ll lr l hi ⟨a1, a2, a3, a4, a5⟩ hs hd hb' hx (ihr w (by simp) hi.2.2.2 a5 s2 hd.2.2 (by omega))

end Go.Proofs.Ytehegllgaiehfaa
