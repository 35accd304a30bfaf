/- aDelete: a key is taken out of a sorted, balanced tree; the elder tree stays as it was. -/
import Derived.Test.YtehegllgaiehfaaDel1
namespace Go.Proofs.Ytehegllgaiehfaa
open Go.RowKit

/-- a sorted list without a key -/
def dropL (x : Int) (xs : List (Int × Value)) : List (Int × Value) := xs.filter (fun a => a.1 != x)
section
variable {b o : Nat} {a : Pl} {l r : Tr} {x : Int}
theorem drop_eq (h : Srt (toL (.node b o a l r))) (hx : x = a.1) : dropL x (toL (.node b o a l r)) = toL l ++ toL r := by
  obtain ⟨_, _, h3, h4, _⟩ := h.parts
  subst hx
  rw [dropL, toL_node, List.filter_append, List.filter_cons_of_neg (by simp), filter_all (xs := toL l) (fun c hc => by have := h3 c hc; simp; omega), filter_all (xs := toL r) (fun c hc => by have := h4 c hc; simp; omega)]
theorem drop_lt (h : Srt (toL (.node b o a l r))) (hx : x < a.1) : dropL x (toL (.node b o a l r)) = dropL x (toL l) ++ (a.1, a.2.1) :: toL r := by
  obtain ⟨_, _, h3, h4, _⟩ := h.parts
  rw [dropL, dropL, toL_node, List.filter_append, List.filter_cons_of_pos (by simp; omega), filter_all (xs := toL r) (fun c hc => by have := h4 c hc; simp; omega)]
theorem drop_gt (h : Srt (toL (.node b o a l r))) (hx : a.1 < x) : dropL x (toL (.node b o a l r)) = toL l ++ (a.1, a.2.1) :: dropL x (toL r) := by
  obtain ⟨_, _, h3, h4, _⟩ := h.parts
  rw [dropL, dropL, toL_node, List.filter_append, List.filter_cons_of_pos (by simp; omega), filter_all (xs := toL l) (fun c hc => by have := h3 c hc; simp; omega)]
end
theorem drop_none {xs : List (Int × Value)} {x : Int} (h : xs.find? (atKey x) = none) : dropL x xs = xs := by
  rw [dropL]
  refine filter_all fun c hc => ?_
  have := List.find?_eq_none.1 h c hc
  simpa [atKey] using this
theorem dataOk_mem : ∀ {T : Tr} {a : Int × Value}, DataOk T → a ∈ toL T → (∃ t v, a.2 = .iface t v) ∨ a.2 = .nilIface
  | .nil, _, _, h => by simp [toL] at h
  | .node _ _ c l r, a, hd, h => by
    rw [toL_node] at h
    rcases List.mem_append.1 h with h | h
    · exact dataOk_mem hd.2.1 h
    · rcases List.mem_cons.1 h with rfl | h
      · exact hd.1
      · exact dataOk_mem hd.2.2 h

def DelPost (w : World) (T : Tr) (x : Int) (e : Ending) (w' : World) : Prop :=
  ∃ (T' : Tr) (dl : Value), e = .returned (.tuple #[dl, T'.ptr]) ∧ In w' T' ∧ Avl T' ∧ DataOk T' ∧ toL T' = dropL x (toL T) ∧ Kept Non w w' ∧ PtrTo w dl ((toL T).find? (atKey x)) ∧ (ht T' = ht T ∨ ht T' = ht T - 1) ∧
    (((toL T).find? (atKey x) = none ∧ T' = T) ∨ ((toL T).find? (atKey x) ≠ none ∧ T'.ptr ≠ T.ptr))

set_option maxRecDepth 100000 in
theorem aDelete_nil (w : World) (x : Int) : Calls Try.prog 85 #[.pointer none, .int .i32 x] w (DelPost w .nil x) := by
  go_enter Try.func85, Try.ntmps85
  go_wp2
  go_ret2
  exact ⟨.nil, .pointer none, rfl, trivial, trivial, trivial, rfl, Kept.refl _ _, .inl ⟨rfl, rfl⟩, .inl rfl, .inl ⟨rfl, rfl⟩⟩

set_option maxRecDepth 100000 in
theorem aDelete_leaf (w : World) (b : Nat) (k : Int) (d : Value) (x : Int) (hx : x = k) (hi : In w (.node b 0 (k, d, 1) .nil .nil)) (hs : Srt (toL (.node b 0 (k, d, 1) .nil .nil))) :
    Calls Try.prog 85 #[.pointer (some ⟨b, 0, none⟩), .int .i32 x] w (DelPost w (.node b 0 (k, d, 1) .nil .nil) x) := by
  subst hx
  have HH := hid0 (And.intro hi hs)
  obtain ⟨t0, t1, t2, t3, t4, tf⟩ := nodeAt hi.2.1
  simp only at t4 t3
  clear hi hs
  go_enter Try.func85, Try.ntmps85
  go_wp2_with fail
  refine (height_some w b 1 t4).mono ?_
  rintro e w' ⟨rfl, hw⟩
  rw [hw]
  clear hw
  go_wp2
  go_ret2
  obtain ⟨hi, hs⟩ := HH.out
  have hf := find_eq (x := x) hs rfl
  refine ⟨.nil, .pointer (some ⟨b, 0, none⟩), rfl, trivial, trivial, trivial, ?_, Kept.refl _ _, ?_, .inr rfl, .inr ⟨?_, ?_⟩⟩
  · rw [drop_eq hs rfl]; rfl
  · rw [hf]; exact PtrTo.root hi
  · rw [hf]; simp
  · simp [Deep.BT.ptr]

set_option maxRecDepth 100000 in
theorem aDelete_recL (w : World) (b : Nat) (k : Int) (d : Value) (h x : Int) (l r : Tr) (hi : In w (.node b 0 (k, d, h) l r)) (ha : Avl (.node b 0 (k, d, h) l r)) (hs : Srt (toL (.node b 0 (k, d, h) l r))) (hd : DataOk (.node b 0 (k, d, h) l r)) (hb : h ≤ 80) (hx : x < k)
    (ih : Calls Try.prog 85 #[l.ptr, .int .i32 x] w (DelPost w l x)) :
    Calls Try.prog 85 #[.pointer (some ⟨b, 0, none⟩), .int .i32 x] w (DelPost w (.node b 0 (k, d, h) l r) x) := by
  obtain ⟨ul, fl⟩ := ptr_form l
  obtain ⟨t0, t1, t2, t3, t4, tf⟩ := nodeAt hi.2.1
  obtain ⟨ur, fr⟩ := ptr_form r
  rw [fl] at t0 ih
  rw [fr] at t1
  simp only at t3
  have HI := hid0 ih
  have HH := hid0 (And.intro hi (And.intro ha (And.intro hs (And.intro hd (And.intro hb hx)))))
  have HL := hid0 (height_at w l _ fl hi.2.2.1)
  have hx2 : ¬ k < x ∨ ¬ x < k := by omega
  have hx3 : ¬ k < x := by omega
  clear hi ha hs hd ih hb hx2
  go_enter Try.func85, Try.ntmps85
  go_wp2_with fail
  refine HL.out.mono ?_
  rintro e w' ⟨rfl, hw⟩
  rw [hw]
  clear hw
  go_wp2_with fail
  refine HI.out.mono ?_
  rintro e W1 ⟨T1, dl, rfl, j1, j2, j3, j4, j5, j6, j7, j8⟩
  obtain ⟨hi, ha, hs, hd, hb, hx⟩ := HH.out
  have hT1 : W1.heap[b]? = some (nodeObj l.ptr r.ptr d k h) := (j5.block b (block_lt hi.2.1) (fun h => h)).trans hi.2.1
  clear t0 t1 t2 t3 t4 tf
  obtain ⟨t0, t1, t2, t3, t4, tf⟩ := nodeAt hT1
  rw [fl] at t0
  rw [fr] at t1
  rcases j8 with ⟨jn, jT⟩ | ⟨jf, jp⟩
  · subst jT
    have hq := run_eq_tr j1 ((hi.2.2.1).ext j5) rfl fl fl
    have HJ := hid0 (And.intro j1 (And.intro jn (And.intro j5 j6)))
    rw [fl]
    clear j1 j2 j3 j4 j5 j6 j7 jn hi ha hs hd hb hx hT1 HL HI
    go_wp2
    go_ret2
    obtain ⟨hi, ha, hs, hd, hb, hx⟩ := HH.out
    obtain ⟨j1, jn, j5, j6⟩ := HJ.out
    have hf : (toL (.node b 0 (k, d, h) T1 r)).find? (atKey x) = none := by rw [find_lt hs hx]; exact jn
    exact ⟨.node b 0 (k, d, h) T1 r, dl, rfl, hi.ext j5, ha, hd, (drop_none hf).symm, j5, by rw [find_lt hs hx]; exact j6, .inl rfl, .inl ⟨hf, rfl⟩⟩
  · obtain ⟨u1, f1⟩ := ptr_form T1
    have hq := run_neq_tr j1 ((hi.2.2.1).ext j5) jp f1 fl
    have HC := hid0 (copy_abs W1 b _ _ d k h (ptr_form _) (ptr_form _) hd.1 hT1)
    have HJ := hid0 (And.intro j1 (And.intro j2 (And.intro j3 (And.intro j4 (And.intro j5 (And.intro j6 (And.intro j7 jf)))))))
    rw [f1]
    clear j1 j2 j3 j4 j5 j6 j7 jf jp hi ha hs hd hb hx hT1 HL HI
    go_wp2_with fail
    refine HC.out.mono ?_
    rintro e W2 ⟨rfl, g1, g2, g3⟩
    have HG := hid0 (And.intro g1 g2)
    clear g1 g2 g3 t0 t1 t2 t3 t4 tf HC hq
    go_wp2_with fail
    rw [← f1]
    obtain ⟨hi, ha, hs, hd, hb, hx⟩ := HH.out
    obtain ⟨j1, j2, j3, j4, j5, j6, j7, jf⟩ := HJ.out
    obtain ⟨g1, g2⟩ := HG.out
    obtain ⟨a1, a2, a3, a4, a5⟩ := ha
    have hL : toL T1 ++ (k, d) :: toL r = dropL x (toL (.node b 0 (k, d, h) l r)) := by rw [j4, drop_lt hs hx]
    have hs1 : Srt (toL T1 ++ (k, d) :: toL r) := by
      rw [j4]
      exact List.Pairwise.sublist (List.filter_sublist.append (List.Sublist.refl _)) hs
    simp only at a1
    refine (rebL W2 W1.heap.size T1 r l.ptr d k h (ht l) g1 (j1.ext g2) ((hi.2.2.2).ext (j5.trans g2)) j2 a5 hs1 ⟨hd.1, j3, hd.2.2⟩ (by omega) (by omega) (by omega) j7 hb).mono ?_
    rintro e W3 ⟨T', rfl, z1, z2, z3, z4, z5, z6, z7⟩
    go_wp2
    go_ret2
    refine ⟨T', dl, rfl, z1, z3, z4, z2.trans hL, (j5.trans g2).trans' z6 (fun i hi h => ?_), ?_, z5, .inr ⟨?_, z7.ne ?_⟩⟩
    · have e' : i = W1.heap.size := h
      have := j5.size
      omega
    · rw [find_lt hs hx]; exact j6
    · rw [find_lt hs hx]; exact jf
    · have := block_lt hi.2.1
      have := j5.size
      have := g2.size
      omega

set_option maxRecDepth 100000 in
theorem aDelete_recR (w : World) (b : Nat) (k : Int) (d : Value) (h x : Int) (l r : Tr) (hi : In w (.node b 0 (k, d, h) r l)) (ha : Avl (.node b 0 (k, d, h) r l)) (hs : Srt (toL (.node b 0 (k, d, h) r l))) (hd : DataOk (.node b 0 (k, d, h) r l)) (hb : h ≤ 80) (hx : k < x)
    (ih : Calls Try.prog 85 #[l.ptr, .int .i32 x] w (DelPost w l x)) :
    Calls Try.prog 85 #[.pointer (some ⟨b, 0, none⟩), .int .i32 x] w (DelPost w (.node b 0 (k, d, h) r l) x) := by
  obtain ⟨ul, fl⟩ := ptr_form l
  obtain ⟨t0, t1, t2, t3, t4, tf⟩ := nodeAt hi.2.1
  obtain ⟨ur, fr⟩ := ptr_form r
  rw [fl] at t1 ih
  rw [fr] at t0
  simp only at t3
  have HI := hid0 ih
  have HH := hid0 (And.intro hi (And.intro ha (And.intro hs (And.intro hd (And.intro hb hx)))))
  have HL := hid0 (height_at w l _ fl hi.2.2.2)
  have hx2 : ¬ k < x ∨ ¬ x < k := by omega
  have hx3 : ¬ x < k := by omega
  clear hi ha hs hd ih hb hx2
  go_enter Try.func85, Try.ntmps85
  go_wp2_with fail
  refine HL.out.mono ?_
  rintro e w' ⟨rfl, hw⟩
  rw [hw]
  clear hw
  go_wp2_with fail
  refine HI.out.mono ?_
  rintro e W1 ⟨T1, dl, rfl, j1, j2, j3, j4, j5, j6, j7, j8⟩
  obtain ⟨hi, ha, hs, hd, hb, hx⟩ := HH.out
  have hT1 : W1.heap[b]? = some (nodeObj r.ptr l.ptr d k h) := (j5.block b (block_lt hi.2.1) (fun h => h)).trans hi.2.1
  clear t0 t1 t2 t3 t4 tf
  obtain ⟨t0, t1, t2, t3, t4, tf⟩ := nodeAt hT1
  rw [fl] at t1
  rw [fr] at t0
  rcases j8 with ⟨jn, jT⟩ | ⟨jf, jp⟩
  · subst jT
    have hq := run_eq_tr j1 ((hi.2.2.2).ext j5) rfl fl fl
    have HJ := hid0 (And.intro j1 (And.intro jn (And.intro j5 j6)))
    rw [fl]
    clear j1 j2 j3 j4 j5 j6 j7 jn hi ha hs hd hb hx hT1 HL HI
    go_wp2
    go_ret2
    obtain ⟨hi, ha, hs, hd, hb, hx⟩ := HH.out
    obtain ⟨j1, jn, j5, j6⟩ := HJ.out
    have hf : (toL (.node b 0 (k, d, h) r T1)).find? (atKey x) = none := by rw [find_gt hs hx]; exact jn
    exact ⟨.node b 0 (k, d, h) r T1, dl, rfl, hi.ext j5, ha, hd, (drop_none hf).symm, j5, by rw [find_gt hs hx]; exact j6, .inl rfl, .inl ⟨hf, rfl⟩⟩
  · obtain ⟨u1, f1⟩ := ptr_form T1
    have hq := run_neq_tr j1 ((hi.2.2.2).ext j5) jp f1 fl
    have HC := hid0 (copy_abs W1 b _ _ d k h (ptr_form _) (ptr_form _) hd.1 hT1)
    have HJ := hid0 (And.intro j1 (And.intro j2 (And.intro j3 (And.intro j4 (And.intro j5 (And.intro j6 (And.intro j7 jf)))))))
    rw [f1]
    clear j1 j2 j3 j4 j5 j6 j7 jf jp hi ha hs hd hb hx hT1 HL HI
    go_wp2_with fail
    refine HC.out.mono ?_
    rintro e W2 ⟨rfl, g1, g2, g3⟩
    have HG := hid0 (And.intro g1 g2)
    clear g1 g2 g3 t0 t1 t2 t3 t4 tf HC hq
    go_wp2_with fail
    rw [← f1]
    obtain ⟨hi, ha, hs, hd, hb, hx⟩ := HH.out
    obtain ⟨j1, j2, j3, j4, j5, j6, j7, jf⟩ := HJ.out
    obtain ⟨g1, g2⟩ := HG.out
    obtain ⟨a1, a2, a3, a4, a5⟩ := ha
    have hL : toL r ++ (k, d) :: toL T1 = dropL x (toL (.node b 0 (k, d, h) r l)) := by rw [j4, drop_gt hs hx]
    have hs1 : Srt (toL r ++ (k, d) :: toL T1) := by
      rw [j4]
      exact List.Pairwise.sublist ((List.Sublist.refl _).append (List.filter_sublist.cons_cons _)) hs
    simp only at a1
    refine (rebR W2 W1.heap.size T1 r l.ptr d k h (ht l) g1 (j1.ext g2) ((hi.2.2.1).ext (j5.trans g2)) j2 a4 hs1 ⟨hd.1, hd.2.1, j3⟩ (by omega) (by omega) (by omega) j7 hb).mono ?_
    rintro e W3 ⟨T', rfl, z1, z2, z3, z4, z5, z6, z7⟩
    go_wp2
    go_ret2
    refine ⟨T', dl, rfl, z1, z3, z4, z2.trans hL, (j5.trans g2).trans' z6 (fun i hi h => ?_), ?_, z5, .inr ⟨?_, z7.ne ?_⟩⟩
    · have e' : i = W1.heap.size := h
      have := j5.size
      omega
    · rw [find_gt hs hx]; exact j6
    · rw [find_gt hs hx]; exact jf
    · have := block_lt hi.2.1
      have := j5.size
      have := g2.size
      omega

set_option maxRecDepth 100000 in
theorem aDelete_inL (w : World) (b : Nat) (k : Int) (d : Value) (h x : Int) (l r : Tr) (hl : l ≠ .nil) (hi : In w (.node b 0 (k, d, h) l r)) (ha : Avl (.node b 0 (k, d, h) l r)) (hs : Srt (toL (.node b 0 (k, d, h) l r))) (hd : DataOk (.node b 0 (k, d, h) l r)) (hb : h ≤ 80) (hx : x = k) (h1 : h ≠ 1) (hlr : ht r < ht l) :
    Calls Try.prog 85 #[.pointer (some ⟨b, 0, none⟩), .int .i32 x] w (DelPost w (.node b 0 (k, d, h) l r) x) := by
  subst hx
  obtain ⟨bl, fl⟩ := node_ptr hi.2.2.1 hl
  obtain ⟨t0, t1, t2, t3, t4, tf⟩ := nodeAt hi.2.1
  obtain ⟨ur, fr⟩ := ptr_form r
  rw [fl] at t0
  rw [fr] at t1
  simp only at t3 t4
  obtain ⟨s1, s2, _⟩ := hs.parts
  have hbl : ht l ≤ 80 := by
    have a1 := ha.1
    simp only at a1
    omega
  have HI := hid0 (fun W (hK : Kept Non w W) => aDeleteMax_any l W hl ((hi.2.2.1).ext hK) ha.2.2.2.1 s1 hd.2.1 hbl)
  rw [fl] at HI
  have HH := hid0 (And.intro hi (And.intro ha (And.intro hs (And.intro hd (And.intro hb hl)))))
  have HL := hid0 (fun W (hK : Kept Non w W) => height_at W l _ fl ((hi.2.2.1).ext hK))
  have HR := hid0 (fun W (hK : Kept Non w W) => height_at W r _ fr ((hi.2.2.2).ext hK))
  have hq1 : (h == 1) = false := by simpa using h1
  clear hi ha hs hd hb s1 s2 hbl h1
  go_enter Try.func85, Try.ntmps85
  go_wp2_with fail
  refine (height_some w b h t4).mono ?_
  rintro e w' ⟨rfl, hw⟩
  rw [hw]
  clear hw
  go_wp2_with fail
  have cl := HL.out w.drew (Kept.refl _ _).drew
  have cr := HR.out w.drew (Kept.refl _ _).drew
  refine wp_region_still_lit (by kernel_rfl) (by kernel_rfl) ?_
  iterate 4 still_step
  still_call cl
  iterate 4 still_step
  still_call cr
  iterate 1 still_step
  refine wpStill_nil ?_
  clear cl cr
  go_wp2_with fail
  refine (HL.out _ (Kept.refl _ _).drew).mono ?_
  rintro e W0 ⟨rfl, hw⟩
  have hK0 : Kept Non w W0 := by rw [hw]; exact (Kept.refl _ _).drew
  have hT0 : W0.heap[b]? = some (nodeObj l.ptr r.ptr d x h) := (hK0.block b (block_lt HH.out.1.2.1) (fun h => h)).trans HH.out.1.2.1
  have HK0 := hid0 hK0
  clear hw hK0 t0 t1 t2 t3 t4 tf
  obtain ⟨t0, t1, t2, t3, t4, tf⟩ := nodeAt hT0
  rw [fl] at t0
  rw [fr] at t1
  clear hT0
  go_wp2_with fail
  refine (HI.out W0 HK0.out).mono ?_
  rintro e W1 ⟨T1, dl, rfl, j1, j2, j3, j4, j5, j6, j7, j8⟩
  obtain ⟨u1, f1⟩ := ptr_form T1
  rcases j6 with ⟨j6, _⟩ | ⟨bd, l', r', h', kd, dd, j6, rfl, hobj⟩
  · have hne := toL_ne HH.out.2.2.2.2.2
    simp at j6
    exact absurd j6 hne
  have hmem : (kd, dd) ∈ toL l := List.mem_of_getLast? j6
  have hdd := dataOk_mem HH.out.2.2.2.1.2.1 hmem
  simp only at hdd
  have hT1 : W1.heap[b]? = some (nodeObj l.ptr r.ptr d x h) := ((HK0.out.trans j5).block b (block_lt HH.out.1.2.1) (fun h => h)).trans HH.out.1.2.1
  have HC := hid0 (copy_abs W1 b _ _ d x h (ptr_form _) (ptr_form _) HH.out.2.2.2.1.1 hT1)
  have hobj1 : W1.heap[bd]? = some (nodeObj l' r' dd kd h') := (j5.block bd (block_lt hobj) (fun h => h)).trans hobj
  have HJ := hid0 (And.intro j1 (And.intro j2 (And.intro j3 (And.intro j4 (And.intro (HK0.out.trans j5) (And.intro j6 (And.intro j7 (And.intro hobj1 hdd))))))))
  clear t0 t1 t2 t3 t4 tf
  obtain ⟨t0, t1, t2, t3, t4, tf⟩ := nodeAt hT1
  rw [fl] at t0
  rw [fr] at t1
  rw [f1]
  clear j1 j2 j3 j4 j5 j6 j7 j8 hT1 hobj hobj1 hmem HI HK0
  go_wp2_with fail
  refine HC.out.mono ?_
  rintro e W2 ⟨rfl, g1, g2, g3⟩
  have hobj2 : W2.heap[bd]? = some (nodeObj l' r' dd kd h') := (g2.block bd (block_lt HJ.out.2.2.2.2.2.2.2.1) (fun h => h)).trans HJ.out.2.2.2.2.2.2.2.1
  have hbn : bd ≠ W1.heap.size := Nat.ne_of_lt (block_lt HJ.out.2.2.2.2.2.2.2.1)
  have HG := hid0 (And.intro g1 g2)
  clear t0 t1 t2 t3 t4 tf HC
  obtain ⟨t0, t1, t2, t3, t4, tf⟩ := nodeAt g1
  obtain ⟨d0, d1, d2, d3, d4, df⟩ := nodeAt hobj2
  have HF : Hid (∀ W3, W3.heap[W1.heap.size]? = some (nodeObj l.ptr r.ptr dd kd h) → Kept (One W1.heap.size) W2 W3 → Calls Try.prog 95 #[.pointer (some ⟨W1.heap.size, 0, none⟩), .int .i8 (ht l), .pointer u1] W3
      (fun e w' => ∃ T' : Tr, e = .returned T'.ptr ∧ DelPost w (.node b 0 (x, d, h) l r) x (.returned (.tuple #[.pointer (some ⟨b, 0, none⟩), T'.ptr])) w')) := by
    intro W3 hT3 hK3
    rw [← f1]
    obtain ⟨hi, ha, hs, hd, hb, hl'⟩ := HH.out
    obtain ⟨j1, j2, j3, j4, j5, j6, j7, j8, j9⟩ := HJ.out
    obtain ⟨a1, a2, a3, a4, a5⟩ := ha
    simp only at a1
    have hL : toL T1 ++ (kd, dd) :: toL r = dropL x (toL (.node b 0 (x, d, h) l r)) := by
      obtain ⟨ys, hys⟩ := List.getLast?_eq_some_iff.1 j6
      rw [drop_eq hs rfl, j4, hys]
      simp
    have hs1 : Srt (toL T1 ++ (kd, dd) :: toL r) := by
      rw [hL]
      exact List.Pairwise.filter _ hs
    have k1 := block_lt hi.2.1
    have k2 := j5.size
    have k3 := g2.size
    have k4 := hK3.size
    refine (rebL W3 W1.heap.size T1 r l.ptr dd kd h (ht l) hT3 ((j1.ext g2).set hK3 (fun hb => Nat.lt_irrefl _ (j1.blk_lt hb))) (((hi.2.2.2).ext (j5.trans g2)).set hK3 (fun hb => Nat.lt_irrefl _ (((hi.2.2.2).ext j5).blk_lt hb))) j2 a5 hs1 ⟨j9, j3, hd.2.2⟩ (by omega) (by omega) (by omega) j7 hb).mono ?_
    rintro e W4 ⟨T', rfl, z1, z2, z3, z4, z5, z6, z7⟩
    refine ⟨T', rfl, T', _, rfl, z1, z3, z4, z2.trans hL, (j5.trans g2).trans' (hK3.trans z6) (fun i hi h => ?_), ?_, z5, .inr ⟨?_, z7.ne ?_⟩⟩
    · have e' : i = W1.heap.size := h
      omega
    · rw [find_eq hs rfl]; exact PtrTo.root hi
    · rw [find_eq hs rfl]; simp
    · omega
  clear g1 g2 g3 hobj2 d0 d1 d4 df
  rcases hdd with ⟨td, vd, rfl⟩ | rfl
  all_goals
    go_wp2_with fail
    go_region
    go_wp2_with fail
    refine (HF.out _ ?_ ?_).mono ?_
    · exact set_block (set_block HG.out.1 2 _) 3 _
    · repeat (first | exact Kept.refl _ _ | refine Kept.drew ?_ | refine Kept.setOne ?_ _ _)
    rintro e W4 ⟨T', rfl, hpost⟩
    go_wp2
    go_ret2
    exact hpost

set_option maxRecDepth 100000 in
theorem aDelete_inR (w : World) (b : Nat) (k : Int) (d : Value) (h x : Int) (l r : Tr) (hl : l ≠ .nil) (hi : In w (.node b 0 (k, d, h) r l)) (ha : Avl (.node b 0 (k, d, h) r l)) (hs : Srt (toL (.node b 0 (k, d, h) r l))) (hd : DataOk (.node b 0 (k, d, h) r l)) (hb : h ≤ 80) (hx : x = k) (h1 : h ≠ 1) (hlr : ¬ ht l < ht r) :
    Calls Try.prog 85 #[.pointer (some ⟨b, 0, none⟩), .int .i32 x] w (DelPost w (.node b 0 (k, d, h) r l) x) := by
  subst hx
  obtain ⟨bl, fl⟩ := node_ptr hi.2.2.2 hl
  obtain ⟨t0, t1, t2, t3, t4, tf⟩ := nodeAt hi.2.1
  obtain ⟨ur, fr⟩ := ptr_form r
  rw [fl] at t1
  rw [fr] at t0
  simp only at t3 t4
  obtain ⟨s1, s2, _⟩ := hs.parts
  have hbl : ht l ≤ 80 := by
    have a1 := ha.1
    simp only at a1
    omega
  have HI := hid0 (fun W (hK : Kept Non w W) => aDeleteMin_any l W hl ((hi.2.2.2).ext hK) ha.2.2.2.2 s2 hd.2.2 hbl)
  rw [fl] at HI
  have HH := hid0 (And.intro hi (And.intro ha (And.intro hs (And.intro hd (And.intro hb hl)))))
  have HL := hid0 (fun W (hK : Kept Non w W) => height_at W l _ fl ((hi.2.2.2).ext hK))
  have HR := hid0 (fun W (hK : Kept Non w W) => height_at W r _ fr ((hi.2.2.1).ext hK))
  have hq1 : (h == 1) = false := by simpa using h1
  clear hi ha hs hd hb s1 s2 hbl h1
  go_enter Try.func85, Try.ntmps85
  go_wp2_with fail
  refine (height_some w b h t4).mono ?_
  rintro e w' ⟨rfl, hw⟩
  rw [hw]
  clear hw
  go_wp2_with fail
  have cl := HL.out w.drew (Kept.refl _ _).drew
  have cr := HR.out w.drew (Kept.refl _ _).drew
  refine wp_region_still_lit (by kernel_rfl) (by kernel_rfl) ?_
  iterate 4 still_step
  still_call cr
  iterate 4 still_step
  still_call cl
  iterate 1 still_step
  refine wpStill_nil ?_
  clear cl cr
  go_wp2_with fail
  refine (HL.out _ (Kept.refl _ _).drew).mono ?_
  rintro e W0 ⟨rfl, hw⟩
  have hK0 : Kept Non w W0 := by rw [hw]; exact (Kept.refl _ _).drew
  have hT0 : W0.heap[b]? = some (nodeObj r.ptr l.ptr d x h) := (hK0.block b (block_lt HH.out.1.2.1) (fun h => h)).trans HH.out.1.2.1
  have HK0 := hid0 hK0
  clear hw hK0 t0 t1 t2 t3 t4 tf
  obtain ⟨t0, t1, t2, t3, t4, tf⟩ := nodeAt hT0
  rw [fl] at t1
  rw [fr] at t0
  clear hT0
  go_wp2_with fail
  refine (HI.out W0 HK0.out).mono ?_
  rintro e W1 ⟨T1, dl, rfl, j1, j2, j3, j4, j5, j6, j7, j8⟩
  obtain ⟨u1, f1⟩ := ptr_form T1
  rcases j6 with ⟨j6, _⟩ | ⟨bd, l', r', h', kd, dd, j6, rfl, hobj⟩
  · have hne := toL_ne HH.out.2.2.2.2.2
    simp at j6
    exact absurd j6 hne
  have hmem : (kd, dd) ∈ toL l := List.mem_of_head? j6
  have hdd := dataOk_mem HH.out.2.2.2.1.2.2 hmem
  simp only at hdd
  have hT1 : W1.heap[b]? = some (nodeObj r.ptr l.ptr d x h) := ((HK0.out.trans j5).block b (block_lt HH.out.1.2.1) (fun h => h)).trans HH.out.1.2.1
  have HC := hid0 (copy_abs W1 b _ _ d x h (ptr_form _) (ptr_form _) HH.out.2.2.2.1.1 hT1)
  have hobj1 : W1.heap[bd]? = some (nodeObj l' r' dd kd h') := (j5.block bd (block_lt hobj) (fun h => h)).trans hobj
  have HJ := hid0 (And.intro j1 (And.intro j2 (And.intro j3 (And.intro j4 (And.intro (HK0.out.trans j5) (And.intro j6 (And.intro j7 (And.intro hobj1 hdd))))))))
  clear t0 t1 t2 t3 t4 tf
  obtain ⟨t0, t1, t2, t3, t4, tf⟩ := nodeAt hT1
  rw [fl] at t1
  rw [fr] at t0
  rw [f1]
  clear j1 j2 j3 j4 j5 j6 j7 j8 hT1 hobj hobj1 hmem HI HK0
  go_wp2_with fail
  refine HC.out.mono ?_
  rintro e W2 ⟨rfl, g1, g2, g3⟩
  have hobj2 : W2.heap[bd]? = some (nodeObj l' r' dd kd h') := (g2.block bd (block_lt HJ.out.2.2.2.2.2.2.2.1) (fun h => h)).trans HJ.out.2.2.2.2.2.2.2.1
  have hbn : bd ≠ W1.heap.size := Nat.ne_of_lt (block_lt HJ.out.2.2.2.2.2.2.2.1)
  have HG := hid0 (And.intro g1 g2)
  clear t0 t1 t2 t3 t4 tf HC
  obtain ⟨t0, t1, t2, t3, t4, tf⟩ := nodeAt g1
  obtain ⟨d0, d1, d2, d3, d4, df⟩ := nodeAt hobj2
  have HF : Hid (∀ W3, W3.heap[W1.heap.size]? = some (nodeObj r.ptr l.ptr dd kd h) → Kept (One W1.heap.size) W2 W3 → Calls Try.prog 96 #[.pointer (some ⟨W1.heap.size, 0, none⟩), .int .i8 (ht l), .pointer u1] W3
      (fun e w' => ∃ T' : Tr, e = .returned T'.ptr ∧ DelPost w (.node b 0 (x, d, h) r l) x (.returned (.tuple #[.pointer (some ⟨b, 0, none⟩), T'.ptr])) w')) := by
    intro W3 hT3 hK3
    rw [← f1]
    obtain ⟨hi, ha, hs, hd, hb, hl'⟩ := HH.out
    obtain ⟨j1, j2, j3, j4, j5, j6, j7, j8, j9⟩ := HJ.out
    obtain ⟨a1, a2, a3, a4, a5⟩ := ha
    simp only at a1
    have hL : toL r ++ (kd, dd) :: toL T1 = dropL x (toL (.node b 0 (x, d, h) r l)) := by
      obtain ⟨ys, hys⟩ := List.head?_eq_some_iff.1 j6
      rw [drop_eq hs rfl, j4, hys]
      simp
    have hs1 : Srt (toL r ++ (kd, dd) :: toL T1) := by
      rw [hL]
      exact List.Pairwise.filter _ hs
    have k1 := block_lt hi.2.1
    have k2 := j5.size
    have k3 := g2.size
    have k4 := hK3.size
    refine (rebR W3 W1.heap.size T1 r l.ptr dd kd h (ht l) hT3 ((j1.ext g2).set hK3 (fun hb => Nat.lt_irrefl _ (j1.blk_lt hb))) (((hi.2.2.1).ext (j5.trans g2)).set hK3 (fun hb => Nat.lt_irrefl _ (((hi.2.2.1).ext j5).blk_lt hb))) j2 a4 hs1 ⟨j9, hd.2.1, j3⟩ (by omega) (by omega) (by omega) j7 hb).mono ?_
    rintro e W4 ⟨T', rfl, z1, z2, z3, z4, z5, z6, z7⟩
    refine ⟨T', rfl, T', _, rfl, z1, z3, z4, z2.trans hL, (j5.trans g2).trans' (hK3.trans z6) (fun i hi h => ?_), ?_, z5, .inr ⟨?_, z7.ne ?_⟩⟩
    · have e' : i = W1.heap.size := h
      omega
    · rw [find_eq hs rfl]; exact PtrTo.root hi
    · rw [find_eq hs rfl]; simp
    · omega
  clear g1 g2 g3 hobj2 d0 d1 d4 df
  rcases hdd with ⟨td, vd, rfl⟩ | rfl
  all_goals
    go_wp2_with fail
    go_region
    go_wp2_with fail
    refine (HF.out _ ?_ ?_).mono ?_
    · exact set_block (set_block HG.out.1 2 _) 3 _
    · repeat (first | exact Kept.refl _ _ | refine Kept.drew ?_ | refine Kept.setOne ?_ _ _)
    rintro e W4 ⟨T', rfl, hpost⟩
    go_wp2
    go_ret2
    exact hpost

theorem aDelete_any (x : Int) : ∀ (T : Tr) (w : World), In w T → Avl T → Srt (toL T) → DataOk T → ht T ≤ 80 →
    Calls Try.prog 85 #[T.ptr, .int .i32 x] w (DelPost w T x) := by
  intro T
  induction T with
  | nil => intro w _ _ _ _ _; exact aDelete_nil w x
  | node b o a l r ihl ihr =>
    intro w hi ha hs hd hb
    obtain ⟨k, d, h⟩ := a
    have ho : o = 0 := hi.1
    subst ho
    have hb' : h ≤ 80 := hb
    have ha' := ha
    obtain ⟨a1, a2, a3, a4, a5⟩ := ha
    have a1' : h = 1 + max (ht l) (ht r) := a1
    have l0 := Avl.ht_nonneg a4
    have r0 := Avl.ht_nonneg a5
    obtain ⟨s1, s2, _⟩ := hs.parts
    rcases Int.lt_trichotomy x k with hx | hx | hx
    · exact aDelete_recL w b k d h x l r hi ha' hs hd hb' hx (ihl w hi.2.2.1 a4 s1 hd.2.1 (by omega))
    · by_cases h1 : h = 1
      · have el : l = .nil := by
          cases l with
          | nil => rfl
          | node bl ol al ll lr =>
            have e1 := a4.1
            have e2 := Avl.ht_nonneg a4.2.2.2.1
            have e3 : ht (.node bl ol al ll lr) = al.2.2 := rfl
            omega
        have er : r = .nil := by
          cases r with
          | nil => rfl
          | node bl ol al ll lr =>
            have e1 := a5.1
            have e2 := Avl.ht_nonneg a5.2.2.2.1
            have e3 : ht (.node bl ol al ll lr) = al.2.2 := rfl
            omega
        subst el; subst er; subst h1
        exact aDelete_leaf w b k d x hx hi hs
      · by_cases hlr : ht r < ht l
        · exact aDelete_inL w b k d h x l r (fun e => by subst e; have e0 : ht (.nil : Tr) = 0 := rfl; rw [e0] at hlr; omega) hi ha' hs hd hb' hx h1 hlr
        · exact aDelete_inR w b k d h x r l (fun e => by subst e; have e0 : ht (.nil : Tr) = 0 := rfl; rw [e0] at hlr a1'; omega) hi ha' hs hd hb' hx h1 hlr
    · exact aDelete_recR w b k d h x r l hi ha' hs hd hb' hx (ihr w hi.2.2.2 a5 s2 hd.2.2 (by omega))

end Go.Proofs.Ytehegllgaiehfaa
