/- T.Delete, T.DeleteMin, T.DeleteMax. -/
import Derived.Test.YtehegllgaiehfaaDel2
import Derived.Test.YtehegllgaiehfaaTree2
namespace Go.Proofs.Ytehegllgaiehfaa
open Go.RowKit

def drop (x : Int) (xs : List (Int × Int)) : List (Int × Int) := xs.filter (fun a => a.1 != x)
theorem drop_map (x : Int) (xs : List (Int × Int)) : dropL x (xs.map en) = (drop x xs).map en := by
  rw [dropL, drop, List.filter_map]; rfl
theorem Ok.sub {xs ys : List (Int × Int)} (h : Ok xs) (hs : ys.Sublist xs) : Ok ys := ⟨h.srt.sublist hs, fun a ha => h.rng a (hs.subset ha)⟩
theorem drop_length {xs : List (Int × Int)} (h : xs.Pairwise fun a b => a.1 < b.1) (x : Int) : xs.length = (drop x xs).length + if (findP x xs).isSome then 1 else 0 := by
  rw [← at_most_one h x, drop, ← List.countP_eq_length_filter, ← List.countP_eq_length_filter, List.length_eq_countP_add_countP (p := fun a => a.1 == x), Nat.add_comm]
  congr 1
  apply List.countP_congr
  intro a _
  simp
theorem dropP_none {xs : List (Int × Int)} {x : Int} (h : findP x xs = none) : drop x xs = xs := by
  rw [drop]
  refine filter_all fun c hc => ?_
  have := List.find?_eq_none.1 h c hc
  simpa using this

def TDel (w : World) (hb : Nat) (ret : Value) (ys : List (Int × Int)) (e : Ending) (w' : World) : Prop := e = .returned ret ∧ Head w' hb ys ∧ Kept (One hb) w w'

set_option maxRecDepth 100000 in
theorem TDelete_nil (w : World) (hb : Nat) (x : Int) (hh : w.heap[hb]? = some (tObj (.pointer none) 0)) :
    Calls Try.prog 59 #[.pointer (some ⟨hb, 0, none⟩), .int .i32 x] w (TDel w hb (dv (findP x [])) (drop x [])) := by
  have hh' := hh
  unfold tObj at hh'
  have h0 : w.cell? ⟨hb, 0, none⟩ = some (.pointer none) := by rw [cell_of hh']; rfl
  have HH := hid hh
  clear hh hh'
  go_enter Try.func59, Try.ntmps59
  go_wp2
  go_ret
  exact ⟨rfl, ⟨.nil, HH.out, ⟨trivial, trivial, rfl, Ok.nil⟩⟩, Kept.refl _ _⟩

set_option maxRecDepth 100000 in
theorem TDelete_node (w : World) (hb : Nat) (xs : List (Int × Int)) (T : Tr) (x : Int) (hT : T ≠ .nil) (hg : GoodT w T xs) (hh : w.heap[hb]? = some (tObj T.ptr xs.length)) :
    Calls Try.prog 59 #[.pointer (some ⟨hb, 0, none⟩), .int .i32 x] w (TDel w hb (dv (findP x xs)) (drop x xs)) := by
  have hh' := hh
  unfold tObj at hh'
  have h0 : w.cell? ⟨hb, 0, none⟩ = some T.ptr := by rw [cell_of hh']; rfl
  have HI := hid (aDelete_any x T w hg.inn hg.avl hg.srt hg.dat hg.bnd)
  have HH := hid (And.intro hh (And.intro hg hT))
  have hlen := hg.ok.length
  obtain ⟨bt, hbt⟩ := node_ptr hg.inn hT
  obtain ⟨rv, hrv⟩ : ∃ rv, rv = findP x xs := ⟨_, rfl⟩
  obtain ⟨ys, hys⟩ : ∃ ys, ys = drop x xs := ⟨_, rfl⟩
  rw [← hrv, ← hys]
  have HR := hid (And.intro hrv hys)
  rw [hbt] at h0 HI
  clear hh hh' hg hT hrv hys
  go_enter Try.func59, Try.ntmps59
  go_wp2_with fail
  refine HI.out.mono ?_
  rintro e W1 ⟨T1, dl, rfl, j1, j2, j3, j4, j5, j6, j7, j8⟩
  obtain ⟨q1, q2, q3⟩ := HH.out
  have hb1 : W1.heap[hb]? = some (.cells #[T.ptr, .int .i64 xs.length] 78 (0, 0)) := (j5.block _ (block_lt q1) (fun h => h)).trans q1
  have c0 : W1.cell? ⟨hb, 0, none⟩ = some T.ptr := by rw [cell_of hb1]; rfl
  have c1 : W1.cell? ⟨hb, 1, none⟩ = some (.int .i64 xs.length) := by rw [cell_of hb1]; rfl
  have cf : ∀ i, W1.frozen? ⟨hb, i, none⟩ = false := fun i => frozen_of hb1 i
  obtain ⟨u1, f1⟩ := ptr_form T1
  rw [q2.lst, findP_map] at j6
  have HJ := hid (And.intro hb1 (And.intro j1 (And.intro j2 (And.intro (show toL T1 = (drop x xs).map en from by rw [j4, q2.lst, drop_map]) (And.intro j5 (And.intro (q2.ok.sub (List.filter_sublist) : Ok (drop x xs)) q2.ok))))))
  rw [f1]
  rcases j6 with ⟨hr, rfl⟩ | ⟨ob, ol, orr, oh, ok, od, hr, rfl, hob⟩
  · have hnone : findP x xs = none := by simpa using hr
    have hno : (toL T).find? (atKey x) = none := by rw [q2.lst, findP_map, hnone]; rfl
    have hTT : T1 = T := by
      rcases j8 with ⟨_, h⟩ | ⟨h, _⟩
      · exact h
      · exact absurd hno h
    have HN := hid (And.intro hnone hTT)
    clear hr hnone hno hTT q1 q2 q3 hb1 j1 j2 j3 j4 j5 j7 j8 h0
    go_wp2
    go_ret
    obtain ⟨hnone, hTT⟩ := HN.out
    obtain ⟨hrv, hys⟩ := HR.out
    obtain ⟨p1, p2, p3, p4, p5, p6, p7⟩ := HJ.out
    rw [hrv, hnone, hys, dropP_none hnone]
    refine ⟨rfl, ⟨T, p1, (HH.out.2.1).ext p5⟩, p5.one⟩
  · have hsome : ∃ a, findP x xs = some a ∧ od = .iface 3 (.int .i64 a.2) ∧ ok = a.1 := by
      cases hf : findP x xs with
      | none => rw [hf] at hr; cases hr
      | some a => rw [hf] at hr; simp only [Option.map_some, Option.some.injEq, en, Prod.mk.injEq] at hr; exact ⟨a, rfl, hr.2.symm, hr.1.symm⟩
    obtain ⟨a, hfa, rfl, rfl⟩ := hsome
    have hob1 : W1.heap[ob]? = some (nodeObj ol orr (.iface 3 (.int .i64 a.2)) a.1 oh) := (j5.block _ (block_lt hob) (fun h => h)).trans hob
    obtain ⟨o0, o1, o2, o3, o4, of⟩ := nodeAt hob1
    have hne : ob ≠ hb := fun e => by
      subst e
      rw [hob1] at hb1
      simp only [nodeObj, Option.some.injEq, Obj.cells.injEq, List.toArray_eq_iff, List.cons.injEq] at hb1
      simp at hb1
    have hpos : 0 < xs.length := by
      have h1 := q2.size
      cases T with
      | nil => exact absurd rfl q3
      | node => simp only [tsize] at h1; omega
    have HN := hid hfa
    clear hr hfa q1 q2 q3 hb1 j1 j2 j3 j4 j5 j7 j8 h0 hob hob1 o0 o1 o4 of
    go_wp2
    go_ret
    obtain ⟨hrv, hys⟩ := HR.out
    obtain ⟨p1, p2, p3, p4, p5, p6, p7⟩ := HJ.out
    rw [hrv, HN.out, hys]
    have hl : ((drop x xs).length : Int) = (xs.length : Int) - 1 := by
      have := drop_length p7.srt x; rw [HN.out] at this; simp at this; omega
    refine ⟨rfl, ⟨T1, ?_, ⟨p2.kept (S := One hb) (by repeat (first | exact Kept.refl _ _ | refine Kept.drew ?_ | refine Kept.setOne ?_ _ _)) (fun b hb' e => ?_), p3, p4, p6⟩⟩, ?_⟩
    · rw [f1]
      refine (set_block (set_block p1 0 _) 1 _).trans ?_
      rw [tObj, hl]
      rfl
    · have e' : b = hb := e
      subst e'
      exact Head.not_blk (p := T.ptr) (n := xs.length) p1 p2 hb'
    · have p5' := p5.one (hb := hb)
      repeat (first | exact p5' | refine Kept.drew ?_ | refine Kept.setOne ?_ _ _)

theorem TDelete_any (w : World) (hb : Nat) (xs : List (Int × Int)) (x : Int) (h : Head w hb xs) :
    Calls Try.prog 59 #[.pointer (some ⟨hb, 0, none⟩), .int .i32 x] w (TDel w hb (dv (findP x xs)) (drop x xs)) := by
  obtain ⟨T, hh, hg⟩ := h.ex
  cases T with
  | nil =>
    have hl := hg.size
    have : xs = [] := by cases xs with | nil => rfl | cons a xs => simp [tsize] at hl
    subst this
    exact TDelete_nil w hb x hh
  | node b o a l r => exact TDelete_node w hb xs _ x (by simp) hg hh

set_option maxRecDepth 100000 in
theorem TDeleteMin_nil (w : World) (hb : Nat) (hh : w.heap[hb]? = some (tObj (.pointer none) 0)) :
    Calls Try.prog 87 #[.pointer (some ⟨hb, 0, none⟩)] w (TDel w hb (kdv ([] : List (Int × Int)).head?) (([] : List (Int × Int)).tail)) := by
  have hh' := hh
  unfold tObj at hh'
  have h0 : w.cell? ⟨hb, 0, none⟩ = some (.pointer none) := by rw [cell_of hh']; rfl
  have HH := hid hh
  clear hh hh'
  go_enter Try.func87, Try.ntmps87
  go_wp2
  go_ret2
  exact ⟨rfl, ⟨.nil, HH.out, ⟨trivial, trivial, rfl, Ok.nil⟩⟩, Kept.refl _ _⟩

set_option maxRecDepth 100000 in
theorem TDeleteMin_node (w : World) (hb : Nat) (xs : List (Int × Int)) (T : Tr) (hT : T ≠ .nil) (hg : GoodT w T xs) (hh : w.heap[hb]? = some (tObj T.ptr xs.length)) :
    Calls Try.prog 87 #[.pointer (some ⟨hb, 0, none⟩)] w (TDel w hb (kdv xs.head?) (xs.tail)) := by
  have hh' := hh
  unfold tObj at hh'
  have h0 : w.cell? ⟨hb, 0, none⟩ = some T.ptr := by rw [cell_of hh']; rfl
  have HI := hid (aDeleteMin_any T w hT hg.inn hg.avl hg.srt hg.dat hg.bnd)
  have HH := hid (And.intro hh (And.intro hg hT))
  have hlen := hg.ok.length
  obtain ⟨bt, hbt⟩ := node_ptr hg.inn hT
  obtain ⟨rv, hrv⟩ : ∃ rv, rv = xs.head? := ⟨_, rfl⟩
  obtain ⟨ys, hys⟩ : ∃ ys, ys = xs.tail := ⟨_, rfl⟩
  rw [← hrv, ← hys]
  have HR := hid (And.intro hrv hys)
  rw [hbt] at h0 HI
  clear hh hh' hg hT hrv hys
  go_enter Try.func87, Try.ntmps87
  go_wp2_with fail
  refine HI.out.mono ?_
  rintro e W1 ⟨T1, dl, rfl, j1, j2, j3, j4, j5, j6, j7, j8⟩
  obtain ⟨q1, q2, q3⟩ := HH.out
  have hb1 : W1.heap[hb]? = some (.cells #[T.ptr, .int .i64 xs.length] 78 (0, 0)) := (j5.block _ (block_lt q1) (fun h => h)).trans q1
  have c0 : W1.cell? ⟨hb, 0, none⟩ = some T.ptr := by rw [cell_of hb1]; rfl
  have c1 : W1.cell? ⟨hb, 1, none⟩ = some (.int .i64 xs.length) := by rw [cell_of hb1]; rfl
  have cf : ∀ i, W1.frozen? ⟨hb, i, none⟩ = false := fun i => frozen_of hb1 i
  obtain ⟨u1, f1⟩ := ptr_form T1
  rw [q2.lst, List.head?_map] at j6
  have HJ := hid (And.intro hb1 (And.intro j1 (And.intro j2 (And.intro (show toL T1 = (xs.tail).map en from by rw [j4, q2.lst, List.map_tail]) (And.intro j5 (And.intro (q2.ok.sub (List.tail_sublist _) : Ok (xs.tail)) q2.ok))))))
  rw [f1]
  rcases j6 with ⟨hr, rfl⟩ | ⟨ob, ol, orr, oh, ok, od, hr, rfl, hob⟩
  · exfalso
    have hne := toL_ne q3
    rw [q2.lst] at hne
    simp at hr hne
    exact hne hr
  · have hsome : ∃ a, xs.head? = some a ∧ od = .iface 3 (.int .i64 a.2) ∧ ok = a.1 := by
      cases hf : xs.head? with
      | none => rw [hf] at hr; cases hr
      | some a => rw [hf] at hr; simp only [Option.map_some, Option.some.injEq, en, Prod.mk.injEq] at hr; exact ⟨a, rfl, hr.2.symm, hr.1.symm⟩
    obtain ⟨a, hfa, rfl, rfl⟩ := hsome
    have hob1 : W1.heap[ob]? = some (nodeObj ol orr (.iface 3 (.int .i64 a.2)) a.1 oh) := (j5.block _ (block_lt hob) (fun h => h)).trans hob
    obtain ⟨o0, o1, o2, o3, o4, of⟩ := nodeAt hob1
    have hne : ob ≠ hb := fun e => by
      subst e
      rw [hob1] at hb1
      simp only [nodeObj, Option.some.injEq, Obj.cells.injEq, List.toArray_eq_iff, List.cons.injEq] at hb1
      simp at hb1
    have hpos : 0 < xs.length := by
      have h1 := q2.size
      cases T with
      | nil => exact absurd rfl q3
      | node => simp only [tsize] at h1; omega
    have HN := hid hfa
    clear hr hfa q1 q2 q3 hb1 j1 j2 j3 j4 j5 j7 j8 h0 hob hob1 o0 o1 o4 of
    go_wp2_with fail
    go_region
    go_wp2
    go_ret2
    obtain ⟨hrv, hys⟩ := HR.out
    obtain ⟨p1, p2, p3, p4, p5, p6, p7⟩ := HJ.out
    rw [hrv, HN.out, hys]
    have hl : ((xs.tail).length : Int) = (xs.length : Int) - 1 := by
      rw [List.length_tail]; omega
    refine ⟨rfl, ⟨T1, ?_, ⟨p2.kept (S := One hb) (by repeat (first | exact Kept.refl _ _ | refine Kept.drew ?_ | refine Kept.setOne ?_ _ _)) (fun b hb' e => ?_), p3, p4, p6⟩⟩, ?_⟩
    · rw [f1]
      refine (set_block (set_block p1 0 _) 1 _).trans ?_
      rw [tObj, hl]
      rfl
    · have e' : b = hb := e
      subst e'
      exact Head.not_blk (p := T.ptr) (n := xs.length) p1 p2 hb'
    · have p5' := p5.one (hb := hb)
      repeat (first | exact p5' | refine Kept.drew ?_ | refine Kept.setOne ?_ _ _)

theorem TDeleteMin_any (w : World) (hb : Nat) (xs : List (Int × Int)) (h : Head w hb xs) :
    Calls Try.prog 87 #[.pointer (some ⟨hb, 0, none⟩)] w (TDel w hb (kdv xs.head?) (xs.tail)) := by
  obtain ⟨T, hh, hg⟩ := h.ex
  cases T with
  | nil =>
    have hl := hg.size
    have : xs = [] := by cases xs with | nil => rfl | cons a xs => simp [tsize] at hl
    subst this
    exact TDeleteMin_nil w hb hh
  | node b o a l r => exact TDeleteMin_node w hb xs _ (by simp) hg hh

set_option maxRecDepth 100000 in
theorem TDeleteMax_nil (w : World) (hb : Nat) (hh : w.heap[hb]? = some (tObj (.pointer none) 0)) :
    Calls Try.prog 88 #[.pointer (some ⟨hb, 0, none⟩)] w (TDel w hb (kdv ([] : List (Int × Int)).getLast?) (([] : List (Int × Int)).dropLast)) := by
  have hh' := hh
  unfold tObj at hh'
  have h0 : w.cell? ⟨hb, 0, none⟩ = some (.pointer none) := by rw [cell_of hh']; rfl
  have HH := hid hh
  clear hh hh'
  go_enter Try.func88, Try.ntmps88
  go_wp2
  go_ret2
  exact ⟨rfl, ⟨.nil, HH.out, ⟨trivial, trivial, rfl, Ok.nil⟩⟩, Kept.refl _ _⟩

set_option maxRecDepth 100000 in
theorem TDeleteMax_node (w : World) (hb : Nat) (xs : List (Int × Int)) (T : Tr) (hT : T ≠ .nil) (hg : GoodT w T xs) (hh : w.heap[hb]? = some (tObj T.ptr xs.length)) :
    Calls Try.prog 88 #[.pointer (some ⟨hb, 0, none⟩)] w (TDel w hb (kdv xs.getLast?) (xs.dropLast)) := by
  have hh' := hh
  unfold tObj at hh'
  have h0 : w.cell? ⟨hb, 0, none⟩ = some T.ptr := by rw [cell_of hh']; rfl
  have HI := hid (aDeleteMax_any T w hT hg.inn hg.avl hg.srt hg.dat hg.bnd)
  have HH := hid (And.intro hh (And.intro hg hT))
  have hlen := hg.ok.length
  obtain ⟨bt, hbt⟩ := node_ptr hg.inn hT
  obtain ⟨rv, hrv⟩ : ∃ rv, rv = xs.getLast? := ⟨_, rfl⟩
  obtain ⟨ys, hys⟩ : ∃ ys, ys = xs.dropLast := ⟨_, rfl⟩
  rw [← hrv, ← hys]
  have HR := hid (And.intro hrv hys)
  rw [hbt] at h0 HI
  clear hh hh' hg hT hrv hys
  go_enter Try.func88, Try.ntmps88
  go_wp2_with fail
  refine HI.out.mono ?_
  rintro e W1 ⟨T1, dl, rfl, j1, j2, j3, j4, j5, j6, j7, j8⟩
  obtain ⟨q1, q2, q3⟩ := HH.out
  have hb1 : W1.heap[hb]? = some (.cells #[T.ptr, .int .i64 xs.length] 78 (0, 0)) := (j5.block _ (block_lt q1) (fun h => h)).trans q1
  have c0 : W1.cell? ⟨hb, 0, none⟩ = some T.ptr := by rw [cell_of hb1]; rfl
  have c1 : W1.cell? ⟨hb, 1, none⟩ = some (.int .i64 xs.length) := by rw [cell_of hb1]; rfl
  have cf : ∀ i, W1.frozen? ⟨hb, i, none⟩ = false := fun i => frozen_of hb1 i
  obtain ⟨u1, f1⟩ := ptr_form T1
  rw [q2.lst, List.getLast?_map] at j6
  have HJ := hid (And.intro hb1 (And.intro j1 (And.intro j2 (And.intro (show toL T1 = (xs.dropLast).map en from by rw [j4, q2.lst, List.map_dropLast]) (And.intro j5 (And.intro (q2.ok.sub (List.dropLast_sublist _) : Ok (xs.dropLast)) q2.ok))))))
  rw [f1]
  rcases j6 with ⟨hr, rfl⟩ | ⟨ob, ol, orr, oh, ok, od, hr, rfl, hob⟩
  · exfalso
    have hne := toL_ne q3
    rw [q2.lst] at hne
    simp at hr hne
    exact hne hr
  · have hsome : ∃ a, xs.getLast? = some a ∧ od = .iface 3 (.int .i64 a.2) ∧ ok = a.1 := by
      cases hf : xs.getLast? with
      | none => rw [hf] at hr; cases hr
      | some a => rw [hf] at hr; simp only [Option.map_some, Option.some.injEq, en, Prod.mk.injEq] at hr; exact ⟨a, rfl, hr.2.symm, hr.1.symm⟩
    obtain ⟨a, hfa, rfl, rfl⟩ := hsome
    have hob1 : W1.heap[ob]? = some (nodeObj ol orr (.iface 3 (.int .i64 a.2)) a.1 oh) := (j5.block _ (block_lt hob) (fun h => h)).trans hob
    obtain ⟨o0, o1, o2, o3, o4, of⟩ := nodeAt hob1
    have hne : ob ≠ hb := fun e => by
      subst e
      rw [hob1] at hb1
      simp only [nodeObj, Option.some.injEq, Obj.cells.injEq, List.toArray_eq_iff, List.cons.injEq] at hb1
      simp at hb1
    have hpos : 0 < xs.length := by
      have h1 := q2.size
      cases T with
      | nil => exact absurd rfl q3
      | node => simp only [tsize] at h1; omega
    have HN := hid hfa
    clear hr hfa q1 q2 q3 hb1 j1 j2 j3 j4 j5 j7 j8 h0 hob hob1 o0 o1 o4 of
    go_wp2_with fail
    go_region
    go_wp2
    go_ret2
    obtain ⟨hrv, hys⟩ := HR.out
    obtain ⟨p1, p2, p3, p4, p5, p6, p7⟩ := HJ.out
    rw [hrv, HN.out, hys]
    have hl : ((xs.dropLast).length : Int) = (xs.length : Int) - 1 := by
      rw [List.length_dropLast]; omega
    refine ⟨rfl, ⟨T1, ?_, ⟨p2.kept (S := One hb) (by repeat (first | exact Kept.refl _ _ | refine Kept.drew ?_ | refine Kept.setOne ?_ _ _)) (fun b hb' e => ?_), p3, p4, p6⟩⟩, ?_⟩
    · rw [f1]
      refine (set_block (set_block p1 0 _) 1 _).trans ?_
      rw [tObj, hl]
      rfl
    · have e' : b = hb := e
      subst e'
      exact Head.not_blk (p := T.ptr) (n := xs.length) p1 p2 hb'
    · have p5' := p5.one (hb := hb)
      repeat (first | exact p5' | refine Kept.drew ?_ | refine Kept.setOne ?_ _ _)

theorem TDeleteMax_any (w : World) (hb : Nat) (xs : List (Int × Int)) (h : Head w hb xs) :
    Calls Try.prog 88 #[.pointer (some ⟨hb, 0, none⟩)] w (TDel w hb (kdv xs.getLast?) (xs.dropLast)) := by
  obtain ⟨T, hh, hg⟩ := h.ex
  cases T with
  | nil =>
    have hl := hg.size
    have : xs = [] := by cases xs with | nil => rfl | cons a xs => simp [tsize] at hl
    subst this
    exact TDeleteMax_nil w hb hh
  | node b o a l r => exact TDeleteMax_node w hb xs _ (by simp) hg hh

end Go.Proofs.Ytehegllgaiehfaa
