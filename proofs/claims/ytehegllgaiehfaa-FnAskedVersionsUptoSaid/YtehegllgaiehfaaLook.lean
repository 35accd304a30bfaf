/- Plain facts of sorted lists of pairs, told by what they have at each key. -/
import Derived.Test.YtehegllgaiehfaaLoop2
import Derived.Test.YtehegllgaiehfaaTree3
namespace Go.Proofs.Ytehegllgaiehfaa

abbrev Ps := List (Int × Int)
def Up (xs : Ps) : Prop := xs.Pairwise fun a b => a.1 < b.1
/-- the data at a key -/
def look (k : Int) : Ps → Option Int
  | [] => none
  | a :: xs => if a.1 = k then some a.2 else look k xs
theorem look_find (k : Int) : ∀ xs : Ps, look k xs = (findP k xs).map Prod.snd
  | [] => rfl
  | a :: xs => by
    by_cases h : a.1 = k
    · simp [look, findP, h]
    · have := look_find k xs
      simp only [findP] at this
      simp [look, findP, h, this]
theorem find_look (k : Int) : ∀ xs : Ps, findP k xs = (look k xs).map fun d => (k, d)
  | [] => rfl
  | a :: xs => by
    by_cases h : a.1 = k
    · subst h; simp [look, findP]
    · have := find_look k xs
      simp only [findP] at this
      simp [look, findP, h, this]
theorem look_append (k : Int) : ∀ xs ys : Ps, look k (xs ++ ys) = (look k xs).or (look k ys)
  | [], ys => by simp [look]
  | a :: xs, ys => by
    by_cases h : a.1 = k
    · simp [look, h]
    · simp [look, h, look_append k xs ys]
theorem look_filter {q : Int → Bool} (k : Int) : ∀ xs : Ps, look k (xs.filter fun a => q a.1) = if q k then look k xs else none
  | [] => by simp [look]
  | a :: xs => by
    have ih := look_filter (q := q) k xs
    by_cases h : a.1 = k
    · subst h
      by_cases hq : q a.1 = true
      · simp [look, hq]
      · simp only [Bool.not_eq_true] at hq
        simp [hq] at ih ⊢
        exact ih
    · by_cases hq : q a.1 = true
      · rw [List.filter_cons_of_pos (p := fun a : Int × Int => q a.1) hq]; simp [look, h, ih]
      · rw [List.filter_cons_of_neg (p := fun a : Int × Int => q a.1) hq]; simp [look, h, ih]
theorem look_put (k x d : Int) (xs : Ps) : look k (put x d xs) = if k = x then some d else look k xs := by
  rw [put, look_append, look_filter (q := fun a => decide (a < x))]
  simp only [look]
  rw [look_filter (q := fun a => decide (x < a))]
  by_cases h : k = x
  · subst h; simp
  · rw [if_neg (Ne.symm h)]
    rcases Int.lt_or_gt_of_ne h with h1 | h1
    · simp [h, h1]; cases look k xs <;> simp
    · have h2 : ¬ k < x := by omega
      simp [h, h2, h1]
theorem look_drop (k x : Int) (xs : Ps) : look k (drop x xs) = if k = x then none else look k xs := by
  rw [drop, look_filter (q := fun a => a != x)]
  by_cases h : k = x <;> simp [h]
theorem Up.nil : Up [] := List.Pairwise.nil
theorem Up.put {xs : Ps} (h : Up xs) (x d : Int) : Up (put x d xs) := put_srt h x d
theorem Up.drop {xs : Ps} (h : Up xs) (x : Int) : Up (drop x xs) := List.Pairwise.filter _ h
theorem look_none_of_lt {k : Int} : ∀ {xs : Ps}, (∀ a ∈ xs, k < a.1) → look k xs = none
  | [], _ => rfl
  | a :: xs, h => by
    have := h a (List.mem_cons_self ..)
    rw [look, if_neg (by omega), look_none_of_lt (fun c hc => h c (List.mem_cons_of_mem _ hc))]
/-- sorted lists that tell the same at each key are the same -/
theorem Up.ext : ∀ {xs ys : Ps}, Up xs → Up ys → (∀ k, look k xs = look k ys) → xs = ys
  | [], [], _, _, _ => rfl
  | [], b :: ys, _, _, h => by have := h b.1; simp [look] at this
  | a :: xs, [], _, _, h => by have := h a.1; simp [look] at this
  | a :: xs, b :: ys, h1, h2, h => by
    obtain ⟨p1, q1⟩ := List.pairwise_cons.1 h1
    obtain ⟨p2, q2⟩ := List.pairwise_cons.1 h2
    have hab : a.1 = b.1 := by
      rcases Int.lt_trichotomy a.1 b.1 with e | e | e
      · have := h a.1
        rw [look, if_pos rfl, look_none_of_lt (fun c hc => by rcases List.mem_cons.1 hc with rfl | hc; exact e; have := p2 c hc; omega)] at this
        cases this
      · exact e
      · have := h b.1
        rw [look_none_of_lt (fun c hc => by rcases List.mem_cons.1 hc with rfl | hc; exact e; have := p1 c hc; omega), look, if_pos rfl] at this
        cases this
    have hd : a.2 = b.2 := by
      have := h a.1
      rw [look, if_pos rfl, look, if_pos hab.symm] at this
      exact Option.some.inj this
    have ht : xs = ys := Up.ext q1 q2 fun k => by
      by_cases e : a.1 = k
      · rw [look_none_of_lt (fun c hc => by have := p1 c hc; omega), look_none_of_lt (fun c hc => by have := p2 c hc; omega)]
      · have := h k
        rwa [look, if_neg e, look, if_neg (by omega)] at this
    rw [ht, Prod.ext hab hd]
theorem mem_look {xs : Ps} (h : Up xs) {a : Int × Int} (ha : a ∈ xs) : look a.1 xs = some a.2 := by
  induction xs with
  | nil => cases ha
  | cons b xs ih =>
    obtain ⟨p1, q1⟩ := List.pairwise_cons.1 h
    rcases List.mem_cons.1 ha with rfl | ha
    · simp [look]
    · have := p1 a ha
      rw [look, if_neg (by omega), ih q1 ha]
theorem look_mem {k d : Int} : ∀ {xs : Ps}, look k xs = some d → (k, d) ∈ xs
  | [], h => by cases h
  | a :: xs, h => by
    rw [look] at h
    split at h
    · rename_i e; cases h; subst e; exact List.mem_cons_self ..
    · exact List.mem_cons_of_mem _ (look_mem h)

/-- each pair with other data, or none -/
def fmap (g : Int → Int → Option Int) (xs : Ps) : Ps := xs.filterMap fun p => (g p.1 p.2).map fun n => (p.1, n)
theorem fmap_cons (g : Int → Int → Option Int) (a : Int × Int) (xs : Ps) : fmap g (a :: xs) = match g a.1 a.2 with | none => fmap g xs | some n => (a.1, n) :: fmap g xs := by
  unfold fmap
  cases h : g a.1 a.2 <;> simp [h]
theorem fmap_key {g : Int → Int → Option Int} {xs : Ps} {a : Int × Int} (h : a ∈ fmap g xs) : ∃ b ∈ xs, b.1 = a.1 ∧ g b.1 b.2 = some a.2 := by
  obtain ⟨b, hb, e⟩ := List.mem_filterMap.1 h
  cases hg : g b.1 b.2 with
  | none => rw [hg] at e; cases e
  | some n => rw [hg] at e; simp at e; subst e; exact ⟨b, hb, rfl, hg⟩
theorem Up.fmap {xs : Ps} (h : Up xs) (g : Int → Int → Option Int) : Up (fmap g xs) := by
  induction xs with
  | nil => exact List.Pairwise.nil
  | cons a xs ih =>
    obtain ⟨p1, q1⟩ := List.pairwise_cons.1 h
    rw [fmap_cons]
    split
    · exact ih q1
    · refine List.pairwise_cons.2 ⟨fun c hc => ?_, ih q1⟩
      obtain ⟨b, hb, e, _⟩ := fmap_key hc
      have := p1 b hb
      simp only
      omega
theorem fmap_length (g : Int → Int → Option Int) (xs : Ps) : (fmap g xs).length ≤ xs.length := List.length_filterMap_le _ _
theorem look_fmap {xs : Ps} (h : Up xs) (g : Int → Int → Option Int) (k : Int) : look k (fmap g xs) = (look k xs).bind (g k) := by
  induction xs with
  | nil => rfl
  | cons a xs ih =>
    obtain ⟨p1, q1⟩ := List.pairwise_cons.1 h
    rw [fmap_cons]
    by_cases e : a.1 = k
    · subst e
      have hn : look a.1 (Go.Proofs.Ytehegllgaiehfaa.fmap g xs) = none := look_none_of_lt fun c hc => by
        obtain ⟨b, hb, e, _⟩ := fmap_key hc
        have := p1 b hb
        omega
      cases hg : g a.1 a.2 <;> simp [look, hg, hn]
    · cases hg : g a.1 a.2 <;> simp [look, e, ih q1]

/-- what is done at a key: nothing, it is deleted, it gets data -/
def doAt (o : Option (Option Int)) (k : Int) (v : Ps) : Ps := match o with
  | none => v
  | some none => drop k v
  | some (some c) => put k c v
theorem Up.doAt {v : Ps} (h : Up v) (o : Option (Option Int)) (k : Int) : Up (doAt o k v) := by
  rcases o with _ | _ | c
  · exact h
  · exact h.drop k
  · exact h.put k c
theorem look_doAt (o : Option (Option Int)) (x k : Int) (v : Ps) : look k (doAt o x v) = if k = x then o.getD (look k v) else look k v := by
  rcases o with _ | _ | c
  · simp [doAt]
  · rw [doAt, look_drop]; rfl
  · rw [doAt, look_put]; rfl
def walk (g : Int → Int → Option (Option Int)) (xs v : Ps) : Ps := xs.foldl (fun v p => doAt (g p.1 p.2) p.1 v) v
theorem Up.walk {g : Int → Int → Option (Option Int)} : ∀ {xs v : Ps}, Up v → Up (walk g xs v)
  | [], _, h => h
  | a :: xs, _, h => Up.walk (xs := xs) (h.doAt (g a.1 a.2) a.1)
theorem walk_snoc (g : Int → Int → Option (Option Int)) (xs v : Ps) (a : Int × Int) : walk g (xs ++ [a]) v = doAt (g a.1 a.2) a.1 (walk g xs v) := by
  rw [walk, List.foldl_append]; rfl
theorem look_walk {g : Int → Int → Option (Option Int)} {k : Int} : ∀ {xs v : Ps}, Up xs → look k (walk g xs v) = match look k xs with | none => look k v | some d => (g k d).getD (look k v)
  | [], _, _ => rfl
  | a :: xs, v, h => by
    obtain ⟨p1, q1⟩ := List.pairwise_cons.1 h
    show look k (walk g xs (doAt (g a.1 a.2) a.1 v)) = _
    rw [look_walk q1, look_doAt]
    by_cases e : a.1 = k
    · subst e
      rw [look_none_of_lt (fun c hc => p1 c hc)]
      simp [look]
    · rw [if_neg (Ne.symm e), look, if_neg e]

theorem foldl_put_look (k : Int) : ∀ (ps s : Ps), look k (ps.foldl (fun s p => put p.1 p.2 s) s) = ps.foldl (fun o p => if k = p.1 then some p.2 else o) (look k s)
  | [], _ => rfl
  | a :: ps, s => by rw [List.foldl_cons, foldl_put_look k ps, look_put, List.foldl_cons]
theorem foldl_last (k : Int) : ∀ (ps : Ps) (o : Option Int), ps.foldl (fun o p => if k = p.1 then some p.2 else o) o = (ps.foldl (fun o p => if k = p.1 then some p.2 else o) none).or o
  | [], o => by simp
  | a :: ps, o => by
    rw [List.foldl_cons, foldl_last k ps, List.foldl_cons, foldl_last k ps (if k = a.1 then some a.2 else none)]
    by_cases e : k = a.1
    · simp only [if_pos e]
      cases List.foldl (fun o p => if k = p.1 then some p.2 else o) none ps <;> simp
    · simp only [if_neg e]
      cases List.foldl (fun o p => if k = p.1 then some p.2 else o) none ps <;> simp
theorem look_treeP (k : Int) (ps : Ps) : look k (treeP ps) = ps.foldl (fun o p => if k = p.1 then some p.2 else o) none := foldl_put_look k ps []
theorem look_treeP_append (k : Int) (ps qs : Ps) : look k (treeP (ps ++ qs)) = (look k (treeP qs)).or (look k (treeP ps)) := by
  rw [look_treeP, look_treeP, look_treeP, List.foldl_append, foldl_last]
theorem look_treeP_filter (q : Int → Bool) (k : Int) (ps : Ps) : look k (treeP (ps.filter fun a => q a.1)) = if q k then look k (treeP ps) else none := by
  rw [look_treeP, look_treeP]
  suffices h : ∀ o o' : Option Int, (if q k then o = o' else o = none) → (ps.filter fun a => q a.1).foldl (fun o p => if k = p.1 then some p.2 else o) o = if q k then ps.foldl (fun o p => if k = p.1 then some p.2 else o) o' else none from h none none (by split <;> rfl)
  induction ps with
  | nil => intro o o' h; by_cases hq : q k = true <;> simp [hq] at h ⊢ <;> exact h
  | cons a ps ih =>
    intro o o' h
    by_cases hq : q a.1 = true
    · rw [List.filter_cons_of_pos (p := fun a : Int × Int => q a.1) hq, List.foldl_cons, List.foldl_cons]
      apply ih
      by_cases e : k = a.1
      · subst e; simp [hq]
      · simp only [if_neg e]; exact h
    · rw [List.filter_cons_of_neg (p := fun a : Int × Int => q a.1) hq, List.foldl_cons]
      apply ih
      by_cases e : k = a.1
      · subst e; simp only [Bool.not_eq_true] at hq; simp [hq] at h ⊢; exact h
      · simp only [if_neg e]; exact h
theorem up_foldl_put : ∀ (ps : Ps) {s : Ps}, Up s → Up (ps.foldl (fun s p => put p.1 p.2 s) s)
  | [], _, h => h
  | a :: ps, _, h => up_foldl_put ps (h.put a.1 a.2)
theorem up_treeP (ps : Ps) : Up (treeP ps) := up_foldl_put ps Up.nil
theorem look_up_last {xs : Ps} (h : Up xs) (k : Int) : xs.foldl (fun o p => if k = p.1 then some p.2 else o) none = look k xs := by
  induction xs with
  | nil => rfl
  | cons a xs ih =>
    obtain ⟨p1, q1⟩ := List.pairwise_cons.1 h
    rw [List.foldl_cons, foldl_last, ih q1, look]
    by_cases e : a.1 = k
    · subst e
      rw [look_none_of_lt (fun c hc => p1 c hc)]; simp
    · rw [if_neg e, if_neg (Ne.symm e)]; simp
/-- a sorted list is its own tree -/
theorem treeP_up {xs : Ps} (h : Up xs) : treeP xs = xs := (up_treeP xs).ext h fun k => by rw [look_treeP, look_up_last h]

end Go.Proofs.Ytehegllgaiehfaa
