/- Min, Max, Glb, GlbEq, Lub, LubEq, IsSingle, Copy and Insert of T. -/
import Derived.Test.YtehegllgaiehfaaTree
namespace Go.Proofs.Ytehegllgaiehfaa
open Go.RowKit


theorem TMin_any (w : World) (b o : Nat) (xs : List (Int × Int)) (h : TreeAt w b o xs) :
    Calls Try.prog 35 #[.pointer (some ⟨b, o, none⟩)] w fun e w' => e = .returned (kdv (xs.head?)) ∧ w = w' := by
  obtain ⟨T, h0, h1, hg⟩ := h.ex
  have HF : Hid (Calls Try.prog 66 #[T.ptr] w (RetPtr w ((xs.head?).map en))) := by
    have := min_any w T hg.inn
    rwa [hg.lst, List.head?_map] at this
  obtain ⟨u, fu⟩ := ptr_form T
  rw [fu] at h0 HF
  generalize xs.head? = res at HF ⊢
  clear h hg h1
  go_enter Try.func35, Try.ntmps35
  go_wp2_with fail
  refine HF.out.mono ?_
  rintro e w' ⟨rfl, q, rfl, hq⟩
  go_wp2_with fail
  refine (nilOrKeyAndData_any _ _ _ hq).mono ?_
  rintro e w' ⟨rfl, rfl⟩
  rw [kd_map]
  clear hq
  cases res with
  | none =>
    simp only [kdv]
    go_wp2
    go_ret2
    exact ⟨rfl, rfl⟩
  | some a =>
    simp only [kdv]
    go_wp2
    go_ret2
    exact ⟨rfl, rfl⟩


theorem TMax_any (w : World) (b o : Nat) (xs : List (Int × Int)) (h : TreeAt w b o xs) :
    Calls Try.prog 33 #[.pointer (some ⟨b, o, none⟩)] w fun e w' => e = .returned (kdv (xs.getLast?)) ∧ w = w' := by
  obtain ⟨T, h0, h1, hg⟩ := h.ex
  have HF : Hid (Calls Try.prog 63 #[T.ptr] w (RetPtr w ((xs.getLast?).map en))) := by
    have := max_any w T hg.inn
    rwa [hg.lst, List.getLast?_map] at this
  obtain ⟨u, fu⟩ := ptr_form T
  rw [fu] at h0 HF
  generalize xs.getLast? = res at HF ⊢
  clear h hg h1
  go_enter Try.func33, Try.ntmps33
  go_wp2_with fail
  refine HF.out.mono ?_
  rintro e w' ⟨rfl, q, rfl, hq⟩
  go_wp2_with fail
  refine (nilOrKeyAndData_any _ _ _ hq).mono ?_
  rintro e w' ⟨rfl, rfl⟩
  rw [kd_map]
  clear hq
  cases res with
  | none =>
    simp only [kdv]
    go_wp2
    go_ret2
    exact ⟨rfl, rfl⟩
  | some a =>
    simp only [kdv]
    go_wp2
    go_ret2
    exact ⟨rfl, rfl⟩


theorem TGlb_any (w : World) (b o : Nat) (xs : List (Int × Int)) (x : Int) (h : TreeAt w b o xs) :
    Calls Try.prog 34 #[.pointer (some ⟨b, o, none⟩), .int .i32 x] w fun e w' => e = .returned (kdv (glbP x false xs)) ∧ w = w' := by
  obtain ⟨T, h0, h1, hg⟩ := h.ex
  have HF : Hid (Calls Try.prog 65 #[T.ptr, .int .i32 x, .bool false] w (RetPtr w ((glbP x false xs).map en))) := by
    have := glb_any w T x false hg.inn hg.srt
    rwa [hg.lst, glbP_map] at this
  obtain ⟨u, fu⟩ := ptr_form T
  rw [fu] at h0 HF
  generalize glbP x false xs = res at HF ⊢
  clear h hg h1
  go_enter Try.func34, Try.ntmps34
  go_wp2_with fail
  refine HF.out.mono ?_
  rintro e w' ⟨rfl, q, rfl, hq⟩
  go_wp2_with fail
  refine (nilOrKeyAndData_any _ _ _ hq).mono ?_
  rintro e w' ⟨rfl, rfl⟩
  rw [kd_map]
  clear hq
  cases res with
  | none =>
    simp only [kdv]
    go_wp2
    go_ret2
    exact ⟨rfl, rfl⟩
  | some a =>
    simp only [kdv]
    go_wp2
    go_ret2
    exact ⟨rfl, rfl⟩


theorem TGlbEq_any (w : World) (b o : Nat) (xs : List (Int × Int)) (x : Int) (h : TreeAt w b o xs) :
    Calls Try.prog 74 #[.pointer (some ⟨b, o, none⟩), .int .i32 x] w fun e w' => e = .returned (kdv (glbP x true xs)) ∧ w = w' := by
  obtain ⟨T, h0, h1, hg⟩ := h.ex
  have HF : Hid (Calls Try.prog 65 #[T.ptr, .int .i32 x, .bool true] w (RetPtr w ((glbP x true xs).map en))) := by
    have := glb_any w T x true hg.inn hg.srt
    rwa [hg.lst, glbP_map] at this
  obtain ⟨u, fu⟩ := ptr_form T
  rw [fu] at h0 HF
  generalize glbP x true xs = res at HF ⊢
  clear h hg h1
  go_enter Try.func74, Try.ntmps74
  go_wp2_with fail
  refine HF.out.mono ?_
  rintro e w' ⟨rfl, q, rfl, hq⟩
  go_wp2_with fail
  refine (nilOrKeyAndData_any _ _ _ hq).mono ?_
  rintro e w' ⟨rfl, rfl⟩
  rw [kd_map]
  clear hq
  cases res with
  | none =>
    simp only [kdv]
    go_wp2
    go_ret2
    exact ⟨rfl, rfl⟩
  | some a =>
    simp only [kdv]
    go_wp2
    go_ret2
    exact ⟨rfl, rfl⟩


theorem TLub_any (w : World) (b o : Nat) (xs : List (Int × Int)) (x : Int) (h : TreeAt w b o xs) :
    Calls Try.prog 75 #[.pointer (some ⟨b, o, none⟩), .int .i32 x] w fun e w' => e = .returned (kdv (lubP x false xs)) ∧ w = w' := by
  obtain ⟨T, h0, h1, hg⟩ := h.ex
  have HF : Hid (Calls Try.prog 67 #[T.ptr, .int .i32 x, .bool false] w (RetPtr w ((lubP x false xs).map en))) := by
    have := lub_any w T x false hg.inn hg.srt
    rwa [hg.lst, lubP_map] at this
  obtain ⟨u, fu⟩ := ptr_form T
  rw [fu] at h0 HF
  generalize lubP x false xs = res at HF ⊢
  clear h hg h1
  go_enter Try.func75, Try.ntmps75
  go_wp2_with fail
  refine HF.out.mono ?_
  rintro e w' ⟨rfl, q, rfl, hq⟩
  go_wp2_with fail
  refine (nilOrKeyAndData_any _ _ _ hq).mono ?_
  rintro e w' ⟨rfl, rfl⟩
  rw [kd_map]
  clear hq
  cases res with
  | none =>
    simp only [kdv]
    go_wp2
    go_ret2
    exact ⟨rfl, rfl⟩
  | some a =>
    simp only [kdv]
    go_wp2
    go_ret2
    exact ⟨rfl, rfl⟩


theorem TLubEq_any (w : World) (b o : Nat) (xs : List (Int × Int)) (x : Int) (h : TreeAt w b o xs) :
    Calls Try.prog 36 #[.pointer (some ⟨b, o, none⟩), .int .i32 x] w fun e w' => e = .returned (kdv (lubP x true xs)) ∧ w = w' := by
  obtain ⟨T, h0, h1, hg⟩ := h.ex
  have HF : Hid (Calls Try.prog 67 #[T.ptr, .int .i32 x, .bool true] w (RetPtr w ((lubP x true xs).map en))) := by
    have := lub_any w T x true hg.inn hg.srt
    rwa [hg.lst, lubP_map] at this
  obtain ⟨u, fu⟩ := ptr_form T
  rw [fu] at h0 HF
  generalize lubP x true xs = res at HF ⊢
  clear h hg h1
  go_enter Try.func36, Try.ntmps36
  go_wp2_with fail
  refine HF.out.mono ?_
  rintro e w' ⟨rfl, q, rfl, hq⟩
  go_wp2_with fail
  refine (nilOrKeyAndData_any _ _ _ hq).mono ?_
  rintro e w' ⟨rfl, rfl⟩
  rw [kd_map]
  clear hq
  cases res with
  | none =>
    simp only [kdv]
    go_wp2
    go_ret2
    exact ⟨rfl, rfl⟩
  | some a =>
    simp only [kdv]
    go_wp2
    go_ret2
    exact ⟨rfl, rfl⟩


theorem isLeaf_any (w : World) (b o : Nat) (a : Pl) (l r : Tr) (hi : In w (.node b o a l r)) (ha : Avl (.node b o a l r)) :
    Calls Try.prog 89 #[.pointer (some ⟨b, o, none⟩)] w fun e w' => e = .returned (.bool (decide (tsize (.node b o a l r) = 1))) ∧ w = w' := by
  obtain ⟨rfl, hb, _⟩ := hi
  obtain ⟨t0, t1, t2, t3, t4, tf⟩ := nodeAt hb
  obtain ⟨a1, a2, a3, a4, a5⟩ := ha
  clear hb
  cases l with
  | nil =>
    cases r with
    | nil =>
      simp only [ht] at a1
      have h1 : a.2.2 = 1 := by omega
      rw [h1] at t4
      simp only [Deep.BT.ptr] at t0 t1
      clear a1 a2 a3 a4 a5 h1
      go_enter Try.func89, Try.ntmps89
      go_wp2
      go_ret
      exact ⟨rfl, rfl⟩
    | node b2 o2 p2 l2 r2 =>
      have hf : decide (tsize (.node b 0 a .nil (.node b2 o2 p2 l2 r2)) = 1) = false := by simp [tsize]
      rw [hf]
      simp only [Deep.BT.ptr] at t0 t1
      clear a1 a2 a3 a4 a5 hf
      go_enter Try.func89, Try.ntmps89
      go_wp2
      go_ret
      exact ⟨rfl, rfl⟩
  | node b2 o2 p2 l2 r2 =>
    have hf : decide (tsize (.node b 0 a (.node b2 o2 p2 l2 r2) r) = 1) = false := by simp [tsize]
    rw [hf]
    simp only [Deep.BT.ptr] at t0
    clear a1 a2 a3 a4 a5 hf
    go_enter Try.func89, Try.ntmps89
    go_wp2
    go_ret
    exact ⟨rfl, rfl⟩

theorem TIsSingle_any (w : World) (b o : Nat) (xs : List (Int × Int)) (h : TreeAt w b o xs) :
    Calls Try.prog 77 #[.pointer (some ⟨b, o, none⟩)] w fun e w' => e = .returned (.bool (decide (xs.length = 1))) ∧ w = w' := by
  obtain ⟨T, h0, h1, hg⟩ := h.ex
  rw [← hg.size]
  cases T with
  | nil =>
    simp only [Deep.BT.ptr] at h0
    clear hg h1 h
    go_enter Try.func77, Try.ntmps77
    go_wp2
    go_ret
    exact ⟨rfl, rfl⟩
  | node b' o' a l r =>
    simp only [Deep.BT.ptr] at h0
    have HF : Hid (Calls Try.prog 89 #[.pointer (some ⟨b', o', none⟩)] w fun e w' => e = .returned (.bool (decide (tsize (.node b' o' a l r) = 1))) ∧ w = w') := isLeaf_any w b' o' a l r hg.inn hg.avl
    clear hg h1 h
    generalize decide (tsize (.node b' o' a l r) = 1) = res at HF ⊢
    go_enter Try.func77, Try.ntmps77
    go_wp2_with fail
    refine HF.out.mono ?_
    rintro e w' ⟨rfl, rfl⟩
    go_wp2
    go_ret
    exact ⟨rfl, rfl⟩


/-- the tree in which the nodes of a block have other data -/
def setD (nb : Nat) (v : Value) : Tr → Tr
  | .nil => .nil
  | .node b o a l r => .node b o (a.1, if b = nb then v else a.2.1, a.2.2) (setD nb v l) (setD nb v r)
theorem setD_ptr (nb : Nat) (v : Value) (T : Tr) : (setD nb v T).ptr = T.ptr := by cases T <;> rfl
theorem setD_ht (nb : Nat) (v : Value) (T : Tr) : ht (setD nb v T) = ht T := by cases T <;> rfl
theorem setD_avl (nb : Nat) (v : Value) : ∀ {T : Tr}, Avl T → Avl (setD nb v T)
  | .nil, _ => trivial
  | .node _ _ _ _ _, ⟨h1, h2, h3, h4, h5⟩ => ⟨by rw [setD_ht, setD_ht]; exact h1, by rw [setD_ht, setD_ht]; exact h2, by rw [setD_ht, setD_ht]; exact h3, setD_avl nb v h4, setD_avl nb v h5⟩
theorem setD_in {w : World} (nb : Nat) (v : Value) : ∀ {T : Tr}, In w T → In (w.setCell ⟨nb, 2, none⟩ v) (setD nb v T)
  | .nil, _ => trivial
  | .node b o a l r, ⟨h1, h2, h3, h4⟩ => by
    refine ⟨h1, ?_, setD_in nb v h3, setD_in nb v h4⟩
    rw [setD_ptr, setD_ptr]
    by_cases e : b = nb
    · subst e
      simp only [if_true]
      exact set_block h2 2 v
    · simp only [if_neg e]
      exact (set_other e).trans h2
theorem setD_not (nb : Nat) (v : Value) : ∀ {T : Tr}, ¬ Blk nb T → setD nb v T = T
  | .nil, _ => rfl
  | .node b o a l r, h => by
    simp only [Blk, not_or] at h
    simp only [setD, if_neg h.1, setD_not nb v h.2.1, setD_not nb v h.2.2]
theorem setD_toL {w : World} {nb : Nat} {l0 r0 d0 : Value} {x h0 : Int} (hb : w.heap[nb]? = some (nodeObj l0 r0 d0 x h0)) (v : Value) : ∀ {T : Tr}, In w T → Srt (toL T) → HasNode nb x T → toL (setD nb v T) = putL x v (toL T)
  | .nil, _, _, h => h.elim
  | .node b o a l r, hi, hs, hn => by
    obtain ⟨s1, s2, s3, s4, s5⟩ := hs.parts
    rcases hn with ⟨rfl, hk⟩ | hn | hn
    · rw [put_eq hs hk.symm]
      rw [setD, toL_node, setD_not b v (hi.2.2.1.not_blk hb (fun u hu => by have := s3 _ hu; simp at this; omega)), setD_not b v (hi.2.2.2.not_blk hb (fun u hu => by have := s4 _ hu; simp at this; omega))]
      simp [hk]
    · obtain ⟨u, hu⟩ := hi.2.2.1.key_mem hb hn.blk
      have hx : x < a.1 := s3 _ hu
      have hne : b ≠ nb := fun e => by
        subst e
        have h1 := hi.2.1
        rw [hb] at h1
        simp only [nodeObj, Option.some.injEq, Obj.cells.injEq, List.toArray_eq_iff, List.cons.injEq] at h1
        simp at h1
        omega
      rw [put_lt hs hx, setD, toL_node, setD_toL hb v hi.2.2.1 s1 hn, setD_not nb v (hi.2.2.2.not_blk hb (fun u hu => by have := s4 _ hu; simp at this; omega))]
      simp [if_neg hne]
    · obtain ⟨u, hu⟩ := hi.2.2.2.key_mem hb hn.blk
      have hx : a.1 < x := s4 _ hu
      have hne : b ≠ nb := fun e => by
        subst e
        have h1 := hi.2.1
        rw [hb] at h1
        simp only [nodeObj, Option.some.injEq, Obj.cells.injEq, List.toArray_eq_iff, List.cons.injEq] at h1
        simp at h1
        omega
      rw [put_gt hs hx, setD, toL_node, setD_toL hb v hi.2.2.2 s2 hn, setD_not nb v (hi.2.2.1.not_blk hb (fun u hu => by have := s3 _ hu; simp at this; omega))]
      simp [if_neg hne]

/-- a sorted list of pairs in which a key has data -/
def put (x d : Int) (xs : List (Int × Int)) : List (Int × Int) := xs.filter (fun a => decide (a.1 < x)) ++ (x, d) :: xs.filter (fun a => decide (x < a.1))
theorem put_map (x d : Int) (xs : List (Int × Int)) : putL x (.iface 3 (.int .i64 d)) (xs.map en) = (put x d xs).map en := by
  unfold putL put
  rw [List.filter_map, List.filter_map]
  simp [en]
  constructor <;> rfl
theorem putL_putL (x : Int) (v v0 : Value) (xs : List (Int × Value)) : putL x v (putL x v0 xs) = putL x v xs := by
  unfold putL
  simp only [List.filter_append, List.filter_filter]
  rw [List.filter_cons_of_neg (by simp), List.filter_cons_of_neg (by simp)]
  have e1 : (xs.filter fun a => decide (a.1 < x) && decide (x < a.1)) = [] := filter_none (fun a _ => by simp; omega)
  have e2 : (xs.filter fun a => decide (x < a.1) && decide (a.1 < x)) = [] := filter_none (fun a _ => by simp; omega)
  simp only [List.filter_filter, Bool.and_self, e1, e2, List.append_nil, List.nil_append]
theorem Ok.put {xs : List (Int × Int)} (h : Ok xs) (x d : Int) (hx : -2147483648 < x ∧ x ≤ 2147483647) : Ok (put x d xs) := by
  refine ⟨?_, fun a ha => ?_⟩
  · unfold Go.Proofs.Ytehegllgaiehfaa.put
    rw [List.pairwise_append, List.pairwise_cons]
    refine ⟨h.srt.filter _, ⟨fun c hc => by simpa using (List.mem_filter.1 hc).2, h.srt.filter _⟩, fun c hc c' hc' => ?_⟩
    have h1 : c.1 < x := by simpa using (List.mem_filter.1 hc).2
    rcases List.mem_cons.1 hc' with rfl | hc'
    · exact h1
    · have h2 : x < c'.1 := by simpa using (List.mem_filter.1 hc').2
      omega
  · rcases List.mem_append.1 ha with ha | ha
    · exact h.rng a (List.mem_filter.1 ha).1
    · rcases List.mem_cons.1 ha with rfl | ha
      · exact hx
      · exact h.rng a (List.mem_filter.1 ha).1
theorem filter_split (xs : List (Int × Int)) (x : Int) : xs.length = (xs.filter fun a => decide (a.1 < x)).length + (xs.filter fun a => a.1 == x).length + (xs.filter fun a => decide (x < a.1)).length := by
  induction xs with
  | nil => rfl
  | cons a xs ih =>
    simp only [List.filter_cons]
    rcases Int.lt_trichotomy a.1 x with h | h | h
    · rw [if_pos (by simpa using h), if_neg (by simp; omega), if_neg (by simp; omega)]; simp only [List.length_cons]; omega
    · rw [if_neg (by simp; omega), if_pos (by simpa using h), if_neg (by simp; omega)]; simp only [List.length_cons]; omega
    · rw [if_neg (by simp; omega), if_neg (by simp; omega), if_pos (by simpa using h)]; simp only [List.length_cons]; omega
theorem at_most_one {xs : List (Int × Int)} (h : xs.Pairwise fun a b => a.1 < b.1) (x : Int) : (xs.filter fun a => a.1 == x).length = if (findP x xs).isSome then 1 else 0 := by
  induction xs with
  | nil => rfl
  | cons a xs ih =>
    obtain ⟨h1, h2⟩ := List.pairwise_cons.1 h
    unfold findP
    by_cases e : a.1 = x
    · rw [List.filter_cons_of_pos (by simpa using e), List.find?_cons_of_pos (by simpa using e), filter_none (fun c hc => by have := h1 c hc; simp; omega)]; rfl
    · rw [List.filter_cons_of_neg (by simpa using e), List.find?_cons_of_neg (by simpa using e)]; exact ih h2
theorem put_length {xs : List (Int × Int)} (h : xs.Pairwise fun a b => a.1 < b.1) (x d : Int) : (put x d xs).length = xs.length + if (findP x xs).isSome then 0 else 1 := by
  have h1 := filter_split xs x
  have h2 := at_most_one h x
  unfold put
  rw [List.length_append, List.length_cons]
  split <;> simp_all <;> omega


theorem TCopy_any (w : World) (b o : Nat) (xs : List (Int × Int)) (h : TreeAt w b o xs) :
    Calls Try.prog 54 #[.pointer (some ⟨b, o, none⟩)] w fun e w' => e = .returned (.pointer (some ⟨w.heap.size, 0, none⟩)) ∧ Head w' w.heap.size xs ∧ Kept Non w w' := by
  obtain ⟨T, h0, h1, hg⟩ := h.ex
  obtain ⟨u, fu⟩ := ptr_form T
  rw [fu] at h0
  have HG : Hid (GoodT w T xs) := hg
  clear h hg
  go_enter Try.func54, Try.ntmps54
  go_wp2
  go_ret
  refine ⟨rfl, ⟨T, ?_, HG.out.ext ((Kept.refl _ _).alloc _)⟩, (Kept.refl _ _).alloc _⟩
  rw [fu]
  exact alloc_new _ _

theorem hasNode_key {w : World} {nb : Nat} {x : Int} {l0 r0 d0 : Value} {k0 h0 : Int} (hb : w.heap[nb]? = some (nodeObj l0 r0 d0 k0 h0)) : ∀ {T : Tr}, In w T → HasNode nb x T → k0 = x
  | .nil, _, h => h.elim
  | .node b o a l r, hi, hn => by
    rcases hn with ⟨rfl, hk⟩ | hn | hn
    · have h1 := hi.2.1
      rw [hb] at h1
      simp only [nodeObj, Option.some.injEq, Obj.cells.injEq, List.toArray_eq_iff, List.cons.injEq] at h1
      simp at h1
      omega
    · exact hasNode_key hb hi.2.2.1 hn
    · exact hasNode_key hb hi.2.2.2 hn
theorem setD_blk {nb : Nat} {v : Value} {b : Nat} : ∀ {T : Tr}, Blk b (setD nb v T) → Blk b T
  | .nil, h => h
  | .node _ _ _ _ _, h => by
    rcases h with h | h | h
    · exact .inl h
    · exact .inr (.inl (setD_blk h))
    · exact .inr (.inr (setD_blk h))
theorem hid {p : Prop} (h : p) : Hid p := h

def InsRes (w : World) (hb : Nat) (xs : List (Int × Int)) (x d : Int) (e : Ending) (w' : World) : Prop :=
  e = .returned (dv (findP x xs)) ∧ Head w' hb (put x d xs) ∧ Kept (One hb) w w'

set_option maxRecDepth 100000 in
theorem TInsert_nil (w : World) (hb : Nat) (x d : Int) (hx : -2147483648 < x ∧ x ≤ 2147483647) (hh : w.heap[hb]? = some (tObj (.pointer none) 0)) :
    Calls Try.prog 53 #[.pointer (some ⟨hb, 0, none⟩), .int .i32 x, .iface 3 (.int .i64 d)] w (InsRes w hb [] x d) := by
  have hh' := hh
  unfold tObj at hh'
  have h0 : w.cell? ⟨hb, 0, none⟩ = some (.pointer none) := by rw [cell_of hh']; rfl
  have hxm : (x == -2147483648) = false := by simp; omega
  have HH : Hid (w.heap[hb]? = some (tObj (.pointer none) 0)) := hh
  clear hh hh'
  go_enter Try.func53, Try.ntmps53
  go_wp2_with fail
  refine (makeNode_abs _ _).mono ?_
  rintro e W1 ⟨rfl, g1, g2, g3⟩
  have hb1 : W1.heap[hb]? = some (.cells #[.pointer none, .int .i64 (0 : Nat)] 78 (0, 0)) := (g2.block _ (block_lt HH.out) (fun h => h)).trans HH.out
  have c0 : W1.cell? ⟨hb, 0, none⟩ = some (.pointer none) := by rw [cell_of hb1]; rfl
  have c1 : W1.cell? ⟨hb, 1, none⟩ = some (.int .i64 0) := by rw [cell_of hb1]; rfl
  have cf : ∀ i, W1.frozen? ⟨hb, i, none⟩ = false := fun i => frozen_of hb1 i
  obtain ⟨t0, t1, t2, t3, t4, tf⟩ := nodeAt g1
  have hne : hb ≠ w.heap.size := Nat.ne_of_lt (block_lt HH.out)
  have HW : Hid (W1.heap[hb]? = some (.cells #[.pointer none, .int .i64 (0 : Nat)] 78 (0, 0)) ∧ W1.heap[w.heap.size]? = some (nodeObj (.pointer none) (.pointer none) .nilIface x 1) ∧ Kept Non w W1) := ⟨hb1, g1, g2⟩
  clear g1 g2 g3 hb1 h0
  go_wp2
  go_ret
  obtain ⟨p1, p2, p3⟩ := HW.out
  have hne' : w.heap.size ≠ hb := fun e => hne e.symm
  refine ⟨rfl, ⟨.node w.heap.size 0 (x, .iface 3 (.int .i64 d), 1) .nil .nil, ?_, ⟨?_, ?_, rfl, ?_⟩⟩, ?_⟩
  · refine (set_block (((set_other hne).trans (set_block p1 1 _))) 0 _).trans ?_
    rfl
  · refine ⟨rfl, (set_other hne').trans ((set_block ((set_other hne').trans p2) 2 _).trans ?_), trivial, trivial⟩
    rfl
  · exact ⟨by simp [ht], by simp [ht], by simp [ht], trivial, trivial⟩
  · exact ⟨by simp [put], fun a ha => by simp [put] at ha; subst ha; exact hx⟩
  · exact ((p3.one.setOne _ _).setNew _ _ (Nat.le_refl _) _).setOne _ _


set_option maxRecDepth 100000 in
set_option maxHeartbeats 400000 in
theorem TInsert_node (w : World) (hb : Nat) (xs : List (Int × Int)) (T : Tr) (x d : Int) (hx : -2147483648 < x ∧ x ≤ 2147483647) (hT : T ≠ .nil) (hg : GoodT w T xs) (hh : w.heap[hb]? = some (tObj T.ptr xs.length)) :
    Calls Try.prog 53 #[.pointer (some ⟨hb, 0, none⟩), .int .i32 x, .iface 3 (.int .i64 d)] w (InsRes w hb xs x d) := by
  have hh' := hh
  unfold tObj at hh'
  have h0 : w.cell? ⟨hb, 0, none⟩ = some T.ptr := by rw [cell_of hh']; rfl
  have hxm : (x == -2147483648) = false := by simp; omega
  have HI : Hid (Calls Try.prog 80 #[T.ptr, .int .i32 x] w (InsPost w T x)) := aInsert_any x T w hT hg.inn hg.avl hg.srt hg.dat hg.bnd
  have HH : Hid (w.heap[hb]? = some (tObj T.ptr xs.length) ∧ GoodT w T xs ∧ T ≠ .nil) := ⟨hh, hg, hT⟩
  have hlen := hg.ok.length
  obtain ⟨bt, hbt⟩ : ∃ bt, T.ptr = .pointer (some bt) := by
    cases T with
    | nil => exact absurd rfl hT
    | node b o a l r => exact ⟨_, rfl⟩
  rw [hbt] at h0 HI
  clear hh hh' hg hT
  go_enter Try.func53, Try.ntmps53
  go_wp2_with fail
  refine HI.out.mono ?_
  rintro e W1 ⟨T1, nb, old, rfl, j1, j2, j3, ⟨v0, j4⟩, j5, j6, j7, j8, j9, j10⟩
  obtain ⟨q1, q2, q3⟩ := HH.out
  have hb1 : W1.heap[hb]? = some (.cells #[T.ptr, .int .i64 xs.length] 78 (0, 0)) := (j8.block _ (block_lt q1) (fun h => h)).trans q1
  have c0 : W1.cell? ⟨hb, 0, none⟩ = some T.ptr := by rw [cell_of hb1]; rfl
  have c1 : W1.cell? ⟨hb, 1, none⟩ = some (.int .i64 xs.length) := by rw [cell_of hb1]; rfl
  have cf : ∀ i, W1.frozen? ⟨hb, i, none⟩ = false := fun i => frozen_of hb1 i
  obtain ⟨l0, r0, d0, k0, h00, hnb⟩ := j1.obj j5.blk
  have hk0 : k0 = x := by
    exact hasNode_key hnb j1 j5
  subst hk0
  obtain ⟨t0, t1, t2, t3, t4, tf⟩ := nodeAt hnb
  obtain ⟨u1, f1⟩ := ptr_form T1
  have hne : hb ≠ nb := by have := block_lt q1; omega
  have hlt : hb < w.heap.size := block_lt q1
  have ol : PtrTo W1 old ((findP k0 xs).map en) := by
    rw [q2.lst, findP_map] at j9
    rcases j9 with h | ⟨b, l, r, h, k, d, h1, h2, h3⟩
    · exact .inl h
    · exact .inr ⟨b, l, r, h, k, d, h1, h2, (j8.block _ (block_lt h3) (fun h => h)).trans h3⟩
  have HW : Hid (W1.heap[hb]? = some (.cells #[T.ptr, .int .i64 xs.length] 78 (0, 0)) ∧ W1.heap[nb]? = some (nodeObj l0 r0 d0 k0 h00) ∧ In W1 T1 ∧ Avl T1 ∧ toL T1 = putL k0 v0 (xs.map en) ∧ HasNode nb k0 T1 ∧ w.heap.size ≤ nb ∧ Kept Non w W1 ∧ Srt (toL T1) ∧ Ok xs) := ⟨hb1, hnb, j1, j2, by rw [j4, q2.lst], j5, j6, j8, by rw [j4]; exact q2.srt.put k0 v0, q2.ok⟩
  clear q1 q2 q3 hb1 hnb j1 j2 j3 j4 j5 j6 j7 j8 j9 j10 h0
  rw [f1]
  have fin : ∀ (n : Nat) (W' : World), n = (put k0 d xs).length → W'.heap[hb]? = some (tObj (.pointer u1) n) → W'.heap[nb]? = some (nodeObj l0 r0 (.iface 3 (.int .i64 d)) k0 h00) → (∀ b, b ≠ hb → b ≠ nb → W'.heap[b]? = W1.heap[b]?) → GoodT W' (setD nb (.iface 3 (.int .i64 d)) T1) (put k0 d xs) := fun n W' _ h1 h2 h3 => by
    obtain ⟨p1, p2, p3, p4, p5, p6, p7, p8, p9, p10⟩ := HW.out
    refine ⟨?_, setD_avl _ _ p4, ?_, p10.put k0 d hx⟩
    · refine (setD_in nb (.iface 3 (.int .i64 d)) p3).keep fun b hb' => ?_
      by_cases e1 : b = hb
      · subst e1
        exfalso
        have := setD_blk hb'
        exact Head.not_blk (p := T.ptr) (n := xs.length) p1 p3 this
      · by_cases e2 : b = nb
        · subst e2
          rw [h2]
          exact (set_block p2 2 _).symm
        · rw [h3 b e1 e2]
          exact (set_other e2).symm
    · rw [setD_toL p2 _ p3 p9 p6, p5, putL_putL, put_map]
  have HF := hid fin
  clear fin
  rcases ol with ⟨hr, rfl⟩ | ⟨ob, ol, orr, oh, ok, od, hr, rfl, hob⟩
  · have hnone : findP k0 xs = none := by simpa using hr
    have HN : Hid (findP k0 xs = none) := hnone
    clear hr hnone
    go_wp2
    go_ret
    rw [InsRes, HN.out]
    obtain ⟨p1, p2, p3, p4, p5, p6, p7, p8, p9, p10⟩ := HW.out
    have hne' : nb ≠ hb := fun e => hne e.symm
    have hpl : xs.length + 1 = (put k0 d xs).length := by rw [put_length p10.srt, HN.out]; rfl
    refine ⟨rfl, ⟨setD nb (.iface 3 (.int .i64 d)) T1, ?_, HF.out (xs.length + 1) _ hpl ?_ ?_ ?_⟩, ((p8.one.setOne _ _).setNew _ _ p7 _).setOne _ _⟩
    · rw [setD_ptr, f1, ← hpl]
      refine (set_block (((set_other hne).trans (set_block p1 1 _))) 0 _).trans ?_
      rfl
    · refine (set_block (((set_other hne).trans (set_block p1 1 _))) 0 _).trans ?_
      rfl
    · exact (set_other hne').trans (set_block ((set_other hne').trans p2) 2 _)
    · intro b e1 e2
      exact (set_other e1).trans ((set_other e2).trans (set_other e1))
  · have hsome : ∃ a, findP k0 xs = some a ∧ od = .iface 3 (.int .i64 a.2) := by
      cases hf : findP k0 xs with
      | none => rw [hf] at hr; cases hr
      | some a => rw [hf] at hr; simp only [Option.map_some, Option.some.injEq, en, Prod.mk.injEq] at hr; exact ⟨a, rfl, hr.2.symm⟩
    obtain ⟨a, hfa, rfl⟩ := hsome
    have HN : Hid (findP k0 xs = some a) := hfa
    obtain ⟨o0, o1, o2, o3, o4, of⟩ := nodeAt hob
    clear hr hfa hob
    go_wp2
    go_ret
    rw [InsRes, HN.out]
    obtain ⟨p1, p2, p3, p4, p5, p6, p7, p8, p9, p10⟩ := HW.out
    have hne' : nb ≠ hb := fun e => hne e.symm
    have hpl : xs.length = (put k0 d xs).length := by rw [put_length p10.srt, HN.out]; rfl
    refine ⟨rfl, ⟨setD nb (.iface 3 (.int .i64 d)) T1, ?_, HF.out xs.length _ hpl ?_ ?_ ?_⟩, (p8.one.setNew _ _ p7 _).setOne _ _⟩
    · rw [setD_ptr, f1, ← hpl]
      refine (set_block ((set_other hne).trans p1) 0 _).trans ?_
      rfl
    · refine (set_block ((set_other hne).trans p1) 0 _).trans ?_
      rfl
    · exact (set_other hne').trans (set_block p2 2 _)
    · intro b e1 e2
      exact (set_other e1).trans (set_other e2)

theorem TInsert_any (w : World) (hb : Nat) (xs : List (Int × Int)) (x d : Int) (hx : -2147483648 < x ∧ x ≤ 2147483647) (h : Head w hb xs) :
    Calls Try.prog 53 #[.pointer (some ⟨hb, 0, none⟩), .int .i32 x, .iface 3 (.int .i64 d)] w (InsRes w hb xs x d) := by
  obtain ⟨T, hh, hg⟩ := h.ex
  cases T with
  | nil =>
    have hl := hg.size
    have : xs = [] := by cases xs with | nil => rfl | cons a xs => simp [tsize] at hl
    subst this
    exact TInsert_nil w hb x d hx hh
  | node b o a l r => exact TInsert_node w hb xs _ x d hx (by simp) hg hh

end Go.Proofs.Ytehegllgaiehfaa
