/- aDeleteMin, aDeleteMax. -/
import Derived.Test.YtehegllgaiehfaaReb
namespace Go.Proofs.Ytehegllgaiehfaa
open Go.RowKit

theorem und_node : Try.prog.underlying 76 = some (.pointer 104) := by kernel_rfl
theorem run_eql_ptr {w : World} {p q : Nat} {cp cq : Array Value} {tp tq : TypeId} (hp : w.heap[p]? = some (.cells cp tp (0, 0))) (hq : w.heap[q]? = some (.cells cq tq (0, 0))) :
    (binOp .eql 76 (.pointer (some ⟨p, 0, none⟩)) (.pointer (some ⟨q, 0, none⟩))).run Try.prog w = .ok (.bool (decide (p = q))) w := by
  obtain ⟨j, hj, hs⟩ : ∃ j, Try.prog.info? 104 = some j ∧ j.size ≠ 0 := by
    have h : (Try.prog.info? 104).map (fun i => decide (i.size = 0)) = some false := by kernel_rfl
    cases hh : Try.prog.info? 104 with
    | none => rw [hh] at h; cases h
    | some j => rw [hh] at h; exact ⟨j, rfl, by simpa using h⟩
  by_cases e : p = q
  · subst e
    have h : ∀ d : Nat, (Op.equalIn (d + 1) 76 (.pointer (some ⟨p, 0, none⟩)) (.pointer (some ⟨p, 0, none⟩))).run Try.prog w = .ok true w := fun d => by
      simp [Op.equalIn, run_underlying und_node, sizeOf, typeInfo, hj, run_sameAddr_same]
    simp only [binOp]
    simp [Op.equal, Op.maxDepth, h 9999]
  · have h : ∀ d : Nat, (Op.equalIn (d + 1) 76 (.pointer (some ⟨p, 0, none⟩)) (.pointer (some ⟨q, 0, none⟩))).run Try.prog w = .ok false w := fun d => by
      simp [Op.equalIn, run_underlying und_node, sizeOf, typeInfo, hj, hs, run_sameAddr_other w (a := ⟨p, 0, none⟩) (b := ⟨q, 0, none⟩) (by intro he; cases he; exact e rfl) hp hq]
    simp only [binOp]
    simp [Op.equal, Op.maxDepth, h 9999, e]
theorem run_eql_nil_nil {w : World} : (binOp .eql 76 (.pointer none) (.pointer none)).run Try.prog w = .ok (.bool true) w := by
  have h : ∀ d : Nat, (Op.equalIn (d + 1) 76 (.pointer none) (.pointer none)).run Try.prog w = .ok true w := fun d => by
    simp [Op.equalIn, run_underlying und_node]
  simp only [binOp]
  simp [Op.equal, Op.maxDepth, h 9999]
theorem run_eql_nil_ptr {w : World} {q : Addr} : (binOp .eql 76 (.pointer none) (.pointer (some q))).run Try.prog w = .ok (.bool false) w := by
  have h : ∀ d : Nat, (Op.equalIn (d + 1) 76 (.pointer none) (.pointer (some q))).run Try.prog w = .ok false w := fun d => by
    simp [Op.equalIn, run_underlying und_node]
  simp only [binOp]
  simp [Op.equal, Op.maxDepth, h 9999]
theorem run_eql_ptr_nil {w : World} {q : Addr} : (binOp .eql 76 (.pointer (some q)) (.pointer none)).run Try.prog w = .ok (.bool false) w := by
  have h : ∀ d : Nat, (Op.equalIn (d + 1) 76 (.pointer (some q)) (.pointer none)).run Try.prog w = .ok false w := fun d => by
    simp [Op.equalIn, run_underlying und_node]
  simp only [binOp]
  simp [Op.equal, Op.maxDepth, h 9999]
/-- whether two trees have the same root -/
theorem run_eql_tr {w : World} {A B : Tr} (hA : In w A) (hB : In w B) : ∃ c : Bool, (binOp .eql 76 A.ptr B.ptr).run Try.prog w = .ok (.bool c) w ∧ (c = true ↔ A.ptr = B.ptr) := by
  cases A with
  | nil =>
    cases B with
    | nil => exact ⟨true, run_eql_nil_nil, by simp⟩
    | node q o a l r => exact ⟨false, run_eql_nil_ptr, by simp [Deep.BT.ptr]⟩
  | node p o a l r =>
    cases B with
    | nil => exact ⟨false, run_eql_ptr_nil, by simp [Deep.BT.ptr]⟩
    | node q o' a' l' r' =>
      obtain ⟨rfl, hp, _⟩ := hA
      obtain ⟨rfl, hq, _⟩ := hB
      exact ⟨decide (p = q), run_eql_ptr hp hq, by simp [Deep.BT.ptr]⟩
theorem run_neq_tr {w : World} {A B : Tr} (hA : In w A) (hB : In w B) (hn : A.ptr ≠ B.ptr) {p q : Value} (ep : A.ptr = p) (eq : B.ptr = q) : (binOp .eql 76 p q).run Try.prog w = .ok (.bool false) w := by
  subst ep; subst eq
  obtain ⟨c, h1, h2⟩ := run_eql_tr hA hB
  rw [h1]
  cases c with
  | false => rfl
  | true => exact absurd (h2.1 rfl) hn
theorem run_eq_tr {w : World} {A B : Tr} (hA : In w A) (hB : In w B) (hn : A.ptr = B.ptr) {p q : Value} (ep : A.ptr = p) (eq : B.ptr = q) : (binOp .eql 76 p q).run Try.prog w = .ok (.bool true) w := by
  subst ep; subst eq
  obtain ⟨c, h1, h2⟩ := run_eql_tr hA hB
  rw [h1, h2.2 hn]
theorem ptr_blk {b : Nat} : ∀ {T : Tr}, T.ptr = .pointer (some ⟨b, 0, none⟩) → Blk b T
  | .nil, h => by simp [Deep.BT.ptr] at h
  | .node _ _ _ _ _, h => by simp [Deep.BT.ptr] at h; exact .inl h.1
theorem RootP.ne {p : Nat → Prop} {b : Nat} (hb : ¬ p b) : ∀ {T : Tr}, RootP p T → T.ptr ≠ .pointer (some ⟨b, 0, none⟩)
  | .nil, h => h.elim
  | .node c _ _ _ _, h => fun e => by simp [Deep.BT.ptr] at e; exact hb (e.1 ▸ h)
theorem node_ptr {w : World} : ∀ {T : Tr}, In w T → T ≠ .nil → ∃ b, T.ptr = .pointer (some ⟨b, 0, none⟩)
  | .nil, _, h => absurd rfl h
  | .node b _ _ _ _, hi, _ => ⟨b, by rw [← hi.1]; rfl⟩
theorem toL_ne {T : Tr} (h : T ≠ .nil) : toL T ≠ [] := by
  cases T with
  | nil => exact absurd rfl h
  | node => rw [toL_node]; simp

/-- the outcome of a deletion: what was deleted, and the tree without it -/
def DelRes (w : World) (T : Tr) (hit : Option (Int × Value)) (rest : List (Int × Value)) (e : Ending) (w' : World) : Prop :=
  ∃ (T' : Tr) (dl : Value), e = .returned (.tuple #[dl, T'.ptr]) ∧ In w' T' ∧ Avl T' ∧ DataOk T' ∧ toL T' = rest ∧ Kept Non w w' ∧ PtrTo w dl hit ∧ (ht T' = ht T ∨ ht T' = ht T - 1) ∧ T'.ptr ≠ T.ptr

set_option maxRecDepth 100000 in
theorem delMin_leaf (w : World) (b : Nat) (k : Int) (d : Value) (h : Int) (r : Tr) (hi : In w (.node b 0 (k, d, h) .nil r)) (ha : Avl (.node b 0 (k, d, h) .nil r)) (hs : Srt (toL (.node b 0 (k, d, h) .nil r))) (hd : DataOk (.node b 0 (k, d, h) .nil r)) :
    Calls Try.prog 98 #[.pointer (some ⟨b, 0, none⟩)] w (DelRes w (.node b 0 (k, d, h) .nil r) (toL (.node b 0 (k, d, h) .nil r)).head? (toL (.node b 0 (k, d, h) .nil r)).tail) := by
  obtain ⟨t0, t1, t2, t3, t4, tf⟩ := nodeAt hi.2.1
  obtain ⟨ur, fr⟩ := ptr_form r
  simp only [Deep.BT.ptr] at t0
  rw [fr] at t1
  have HH := hid0 (And.intro hi (And.intro ha (And.intro hs hd)))
  clear hi ha hs hd
  go_enter Try.func98, Try.ntmps98
  go_wp2_with fail
  refine wp_region_still_lit (by kernel_rfl) (by kernel_rfl) ?_
  iterate 7 still_step
  refine wpStill_nil ?_
  go_wp2
  go_ret2
  obtain ⟨hi, ha, hs, hd⟩ := HH.out
  obtain ⟨a1, a2, a3, a4, a5⟩ := ha
  obtain ⟨h1, h2, h3, h4, h5⟩ := hs.parts
  have a6 := Avl.ht_nonneg a5
  have n0 : ht (.nil : Tr) = 0 := rfl
  rw [n0] at a1 a2 a3
  simp only at a1
  refine ⟨r, .pointer (some ⟨b, 0, none⟩), by rw [fr]; rfl, (hi.2.2.2).drew, a5, hd.2.2, rfl, (Kept.refl _ _).drew, ?_, ?_, ?_⟩
  · rw [show (toL (.node b 0 (k, d, h) .nil r)).head? = some (k, d) from rfl]
    exact PtrTo.root hi
  · show ht r = h ∨ ht r = h - 1
    omega
  · intro e
    exact (hi.2.2.2).not_blk hi.2.1 (fun v hv => by have := h4 _ hv; simp at this) (ptr_blk e)

set_option maxRecDepth 100000 in
theorem delMin_rec (w : World) (b : Nat) (k : Int) (d : Value) (h : Int) (l r : Tr) (hl : l ≠ .nil) (hi : In w (.node b 0 (k, d, h) l r)) (ha : Avl (.node b 0 (k, d, h) l r)) (hs : Srt (toL (.node b 0 (k, d, h) l r))) (hd : DataOk (.node b 0 (k, d, h) l r)) (hb : h ≤ 80)
    (ih : Calls Try.prog 98 #[l.ptr] w (DelRes w l (toL l).head? (toL l).tail)) :
    Calls Try.prog 98 #[.pointer (some ⟨b, 0, none⟩)] w (DelRes w (.node b 0 (k, d, h) l r) (toL (.node b 0 (k, d, h) l r)).head? (toL (.node b 0 (k, d, h) l r)).tail) := by
  obtain ⟨bl, fl⟩ := node_ptr hi.2.2.1 hl
  obtain ⟨t0, t1, t2, t3, t4, tf⟩ := nodeAt hi.2.1
  obtain ⟨ur, fr⟩ := ptr_form r
  rw [fl] at t0 ih
  rw [fr] at t1
  have HI := hid0 ih
  have HH := hid0 (And.intro hi (And.intro ha (And.intro hs (And.intro hd (And.intro hb hl)))))
  have HL := hid0 (height_at w l _ fl hi.2.2.1)
  clear hi ha hs hd ih hb hl
  go_enter Try.func98, Try.ntmps98
  go_wp2_with fail
  refine HL.out.mono ?_
  rintro e w' ⟨rfl, hw⟩
  rw [hw]
  clear hw
  go_wp2_with fail
  refine HI.out.mono ?_
  rintro e W1 ⟨T1, dl, rfl, j1, j2, j3, j4, j5, j6, j7, j8⟩
  obtain ⟨u1, f1⟩ := ptr_form T1
  obtain ⟨hi, ha, hs, hd, hb, hl⟩ := HH.out
  have hT1 : W1.heap[b]? = some (nodeObj l.ptr r.ptr d k h) := (j5.block b (block_lt hi.2.1) (fun h => h)).trans hi.2.1
  have hq := run_neq_tr j1 ((hi.2.2.1).ext j5) j8 f1 fl
  have HC := hid0 (copy_abs W1 b _ _ d k h (ptr_form _) (ptr_form _) hd.1 hT1)
  clear t0 t1 t2 t3 t4 tf
  obtain ⟨t0, t1, t2, t3, t4, tf⟩ := nodeAt hT1
  rw [fl] at t0
  rw [fr] at t1
  have HJ := hid0 (And.intro j1 (And.intro j2 (And.intro j3 (And.intro j4 (And.intro j5 (And.intro j6 j7))))))
  rw [f1]
  clear j1 j2 j3 j4 j5 j6 j7 j8 hi ha hs hd hb hl hT1 HL HI
  go_wp2_with fail
  refine HC.out.mono ?_
  rintro e W2 ⟨rfl, g1, g2, g3⟩
  have HG := hid0 (And.intro g1 g2)
  clear g1 g2 g3 t0 t1 t2 t3 t4 tf HC hq
  go_wp2_with fail
  rw [← f1]
  obtain ⟨hi, ha, hs, hd, hb, hl⟩ := HH.out
  obtain ⟨j1, j2, j3, j4, j5, j6, j7⟩ := HJ.out
  obtain ⟨g1, g2⟩ := HG.out
  obtain ⟨a1, a2, a3, a4, a5⟩ := ha
  have hL : toL T1 ++ (k, d) :: toL r = (toL (.node b 0 (k, d, h) l r)).tail := by rw [j4]; exact Eq.symm (by rw [toL_node, List.tail_append_of_ne_nil (toL_ne hl)])
  have hs1 : Srt (toL T1 ++ (k, d) :: toL r) := by
    rw [j4]
    exact List.Pairwise.sublist ((List.tail_sublist _).append (List.Sublist.refl _)) hs
  simp only at a1
  refine (rebL W2 W1.heap.size T1 r l.ptr d k h (ht l) g1 (j1.ext g2) ((hi.2.2.2).ext (j5.trans g2)) j2 a5 hs1 ⟨hd.1, j3, hd.2.2⟩ (by omega) (by omega) (by omega) j7 hb).mono ?_
  rintro e W3 ⟨T', rfl, z1, z2, z3, z4, z5, z6, z7⟩
  go_wp2
  go_ret2
  refine ⟨T', dl, rfl, z1, z3, z4, z2.trans hL, (j5.trans g2).trans' z6 (fun i hi h => ?_), ?_, z5, z7.ne ?_⟩
  · have e' : i = W1.heap.size := h
    have := j5.size
    omega
  · rw [min_left hl]; exact j6
  · have := block_lt hi.2.1
    have := j5.size
    have := g2.size
    omega

theorem aDeleteMin_any : ∀ (T : Tr) (w : World), T ≠ .nil → In w T → Avl T → Srt (toL T) → DataOk T → ht T ≤ 80 →
    Calls Try.prog 98 #[T.ptr] w (DelRes w T (toL T).head? (toL T).tail) := by
  intro T
  induction T with
  | nil => intro w h; exact absurd rfl h
  | node b o a l r ih1 ih2 =>
    intro w _ hi ha hs hd hb
    obtain ⟨k, d, h⟩ := a
    have ho : o = 0 := hi.1
    subst ho
    have hb' : h ≤ 80 := hb
    have a1' : h = 1 + max (ht l) (ht r) := ha.1
    obtain ⟨s1, s2, _⟩ := hs.parts
    by_cases hl : l = .nil
    · subst hl
      exact delMin_leaf w b k d h r hi ha hs hd
    · exact delMin_rec w b k d h l r hl hi ha hs hd hb' (ih1 w hl hi.2.2.1 ha.2.2.2.1 s1 hd.2.1 (by omega))

set_option maxRecDepth 100000 in
theorem delMax_leaf (w : World) (b : Nat) (k : Int) (d : Value) (h : Int) (r : Tr) (hi : In w (.node b 0 (k, d, h) r .nil)) (ha : Avl (.node b 0 (k, d, h) r .nil)) (hs : Srt (toL (.node b 0 (k, d, h) r .nil))) (hd : DataOk (.node b 0 (k, d, h) r .nil)) :
    Calls Try.prog 97 #[.pointer (some ⟨b, 0, none⟩)] w (DelRes w (.node b 0 (k, d, h) r .nil) (toL (.node b 0 (k, d, h) r .nil)).getLast? (toL (.node b 0 (k, d, h) r .nil)).dropLast) := by
  obtain ⟨t0, t1, t2, t3, t4, tf⟩ := nodeAt hi.2.1
  obtain ⟨ur, fr⟩ := ptr_form r
  simp only [Deep.BT.ptr] at t1
  rw [fr] at t0
  have HH := hid0 (And.intro hi (And.intro ha (And.intro hs hd)))
  clear hi ha hs hd
  go_enter Try.func97, Try.ntmps97
  go_wp2_with fail
  refine wp_region_still_lit (by kernel_rfl) (by kernel_rfl) ?_
  iterate 7 still_step
  refine wpStill_nil ?_
  go_wp2
  go_ret2
  obtain ⟨hi, ha, hs, hd⟩ := HH.out
  obtain ⟨a1, a2, a3, a4, a5⟩ := ha
  obtain ⟨h1, h2, h3, h4, h5⟩ := hs.parts
  have a6 := Avl.ht_nonneg a4
  have n0 : ht (.nil : Tr) = 0 := rfl
  rw [n0] at a1 a2 a3
  simp only at a1
  refine ⟨r, .pointer (some ⟨b, 0, none⟩), by rw [fr]; rfl, (hi.2.2.1).drew, a4, hd.2.1, by rw [toL_node]; simp [toL], (Kept.refl _ _).drew, ?_, ?_, ?_⟩
  · rw [show (toL (.node b 0 (k, d, h) r .nil)).getLast? = some (k, d) from by rw [toL_node]; simp [toL]]
    exact PtrTo.root hi
  · show ht r = h ∨ ht r = h - 1
    omega
  · intro e
    exact (hi.2.2.1).not_blk hi.2.1 (fun v hv => by have := h3 _ hv; simp at this) (ptr_blk e)

set_option maxRecDepth 100000 in
theorem delMax_rec (w : World) (b : Nat) (k : Int) (d : Value) (h : Int) (l r : Tr) (hl : l ≠ .nil) (hi : In w (.node b 0 (k, d, h) r l)) (ha : Avl (.node b 0 (k, d, h) r l)) (hs : Srt (toL (.node b 0 (k, d, h) r l))) (hd : DataOk (.node b 0 (k, d, h) r l)) (hb : h ≤ 80)
    (ih : Calls Try.prog 97 #[l.ptr] w (DelRes w l (toL l).getLast? (toL l).dropLast)) :
    Calls Try.prog 97 #[.pointer (some ⟨b, 0, none⟩)] w (DelRes w (.node b 0 (k, d, h) r l) (toL (.node b 0 (k, d, h) r l)).getLast? (toL (.node b 0 (k, d, h) r l)).dropLast) := by
  obtain ⟨bl, fl⟩ := node_ptr hi.2.2.2 hl
  obtain ⟨t0, t1, t2, t3, t4, tf⟩ := nodeAt hi.2.1
  obtain ⟨ur, fr⟩ := ptr_form r
  rw [fl] at t1 ih
  rw [fr] at t0
  have HI := hid0 ih
  have HH := hid0 (And.intro hi (And.intro ha (And.intro hs (And.intro hd (And.intro hb hl)))))
  have HL := hid0 (height_at w l _ fl hi.2.2.2)
  clear hi ha hs hd ih hb hl
  go_enter Try.func97, Try.ntmps97
  go_wp2_with fail
  refine HL.out.mono ?_
  rintro e w' ⟨rfl, hw⟩
  rw [hw]
  clear hw
  go_wp2_with fail
  refine HI.out.mono ?_
  rintro e W1 ⟨T1, dl, rfl, j1, j2, j3, j4, j5, j6, j7, j8⟩
  obtain ⟨u1, f1⟩ := ptr_form T1
  obtain ⟨hi, ha, hs, hd, hb, hl⟩ := HH.out
  have hT1 : W1.heap[b]? = some (nodeObj r.ptr l.ptr d k h) := (j5.block b (block_lt hi.2.1) (fun h => h)).trans hi.2.1
  have hq := run_neq_tr j1 ((hi.2.2.2).ext j5) j8 f1 fl
  have HC := hid0 (copy_abs W1 b _ _ d k h (ptr_form _) (ptr_form _) hd.1 hT1)
  clear t0 t1 t2 t3 t4 tf
  obtain ⟨t0, t1, t2, t3, t4, tf⟩ := nodeAt hT1
  rw [fl] at t1
  rw [fr] at t0
  have HJ := hid0 (And.intro j1 (And.intro j2 (And.intro j3 (And.intro j4 (And.intro j5 (And.intro j6 j7))))))
  rw [f1]
  clear j1 j2 j3 j4 j5 j6 j7 j8 hi ha hs hd hb hl hT1 HL HI
  go_wp2_with fail
  refine HC.out.mono ?_
  rintro e W2 ⟨rfl, g1, g2, g3⟩
  have HG := hid0 (And.intro g1 g2)
  clear g1 g2 g3 t0 t1 t2 t3 t4 tf HC hq
  go_wp2_with fail
  rw [← f1]
  obtain ⟨hi, ha, hs, hd, hb, hl⟩ := HH.out
  obtain ⟨j1, j2, j3, j4, j5, j6, j7⟩ := HJ.out
  obtain ⟨g1, g2⟩ := HG.out
  obtain ⟨a1, a2, a3, a4, a5⟩ := ha
  have hL : toL r ++ (k, d) :: toL T1 = (toL (.node b 0 (k, d, h) r l)).dropLast := by rw [j4]; exact Eq.symm (by rw [toL_node, List.dropLast_append_of_ne_nil (by simp), List.dropLast_cons_of_ne_nil (toL_ne hl)])
  have hs1 : Srt (toL r ++ (k, d) :: toL T1) := by
    rw [j4]
    exact List.Pairwise.sublist ((List.Sublist.refl _).append ((List.dropLast_sublist _).cons_cons _)) hs
  simp only at a1
  refine (rebR W2 W1.heap.size T1 r l.ptr d k h (ht l) g1 (j1.ext g2) ((hi.2.2.1).ext (j5.trans g2)) j2 a4 hs1 ⟨hd.1, hd.2.1, j3⟩ (by omega) (by omega) (by omega) j7 hb).mono ?_
  rintro e W3 ⟨T', rfl, z1, z2, z3, z4, z5, z6, z7⟩
  go_wp2
  go_ret2
  refine ⟨T', dl, rfl, z1, z3, z4, z2.trans hL, (j5.trans g2).trans' z6 (fun i hi h => ?_), ?_, z5, z7.ne ?_⟩
  · have e' : i = W1.heap.size := h
    have := j5.size
    omega
  · rw [max_right hl]; exact j6
  · have := block_lt hi.2.1
    have := j5.size
    have := g2.size
    omega

theorem aDeleteMax_any : ∀ (T : Tr) (w : World), T ≠ .nil → In w T → Avl T → Srt (toL T) → DataOk T → ht T ≤ 80 →
    Calls Try.prog 97 #[T.ptr] w (DelRes w T (toL T).getLast? (toL T).dropLast) := by
  intro T
  induction T with
  | nil => intro w h; exact absurd rfl h
  | node b o a r l ih1 ih2 =>
    intro w _ hi ha hs hd hb
    obtain ⟨k, d, h⟩ := a
    have ho : o = 0 := hi.1
    subst ho
    have hb' : h ≤ 80 := hb
    have a1' : h = 1 + max (ht r) (ht l) := ha.1
    obtain ⟨s1, s2, _⟩ := hs.parts
    by_cases hl : l = .nil
    · subst hl
      exact delMax_leaf w b k d h r hi ha hs hd
    · exact delMax_rec w b k d h l r hl hi ha hs hd hb' (ih2 w hl hi.2.2.2 ha.2.2.2.2 s2 hd.2.2 (by omega))

end Go.Proofs.Ytehegllgaiehfaa
