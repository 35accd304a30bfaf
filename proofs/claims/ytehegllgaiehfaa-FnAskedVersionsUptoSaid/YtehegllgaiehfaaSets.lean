/- What union, intersection and difference of the program have at each key, and that they are those of the model. -/
import Derived.Test.YtehegllgaiehfaaLook
namespace Go.Proofs.Ytehegllgaiehfaa

abbrev Fun2 := Int → Int → Option Int
/-- what is done at a common key: nothing, where the first data are told -/
def said (f : Option Fun2) (d e : Int) : Option (Option Int) := match f with
  | none => none
  | some op => if op d e = some d then none else some (op d e)
def gU1 (f : Option Fun2) (xs : Ps) (k e : Int) : Option (Option Int) := match look k xs with
  | none => some (some e)
  | some d => said f d e
def gU2 (f : Option Fun2) (ys : Ps) (k d : Int) : Option (Option Int) := match look k ys with
  | none => some (some d)
  | some e => said f d e
def gI1 (f : Option Fun2) (ys : Ps) (k d : Int) : Option (Option Int) := match look k ys with
  | none => some none
  | some e => said f d e
def gI2 (f : Option Fun2) (xs : Ps) (k e : Int) : Option (Option Int) := match look k xs with
  | none => some none
  | some d => said f d e
def gD (f : Option Fun2) (ys : Ps) (k d : Int) : Option (Option Int) := match look k ys with
  | none => none
  | some e => match f with
    | none => some none
    | some _ => said f d e
def unionI (f : Option Fun2) (xs ys : Ps) : Ps :=
  if xs.length = 0 then ys else if ys.length = 0 then xs else
  if ys.length ≤ xs.length then walk (gU1 f xs) ys xs else walk (gU2 f ys) xs ys
def interI (f : Option Fun2) (xs ys : Ps) : Ps :=
  if xs.length = 0 then [] else if ys.length = 0 then [] else
  if xs.length ≤ ys.length then walk (gI1 f ys) xs xs else walk (gI2 f xs) ys ys
def diffI (f : Option Fun2) (xs ys : Ps) : Ps :=
  if xs.length = 0 then [] else if ys.length = 0 then xs else walk (gD f ys) xs xs

theorem Up.unionI {xs ys : Ps} (h : Up xs) (h' : Up ys) (f : Option Fun2) : Up (unionI f xs ys) := by
  unfold Go.Proofs.Ytehegllgaiehfaa.unionI
  split
  · exact h'
  · split
    · exact h
    · split
      · exact Up.walk h
      · exact Up.walk h'
theorem Up.interI {xs ys : Ps} (h : Up xs) (h' : Up ys) (f : Option Fun2) : Up (interI f xs ys) := by
  unfold Go.Proofs.Ytehegllgaiehfaa.interI
  split
  · exact Up.nil
  · split
    · exact Up.nil
    · split
      · exact Up.walk h
      · exact Up.walk h'
theorem Up.diffI {xs : Ps} (h : Up xs) (ys : Ps) (f : Option Fun2) : Up (diffI f xs ys) := by
  unfold Go.Proofs.Ytehegllgaiehfaa.diffI
  split
  · exact Up.nil
  · split
    · exact h
    · exact Up.walk h

/-- the data of a common key, where those of the first tree are kept if b -/
def both (f : Option Fun2) (b : Bool) (d e : Int) : Option Int := (said f d e).getD (some (if b then d else e))
theorem look_unionI {xs ys : Ps} (h : Up xs) (h' : Up ys) (f : Option Fun2) (k : Int) : look k (unionI f xs ys) = match look k xs, look k ys with
    | none, o => o
    | some d, none => some d
    | some d, some e => both f (decide (ys.length ≤ xs.length)) d e := by
  unfold unionI
  split
  · rename_i e; rw [List.length_eq_zero_iff] at e; subst e; simp [look]
  · split
    · rename_i e; rw [List.length_eq_zero_iff] at e; subst e
      cases look k xs <;> simp [look]
    · split
      · rename_i hl
        rw [look_walk h']
        cases h1 : look k xs <;> cases h2 : look k ys <;> simp [gU1, h1, both, hl]
      · rename_i hl
        rw [look_walk h]
        cases h1 : look k xs <;> cases h2 : look k ys <;> simp [gU2, h2, both, hl]
theorem look_interI {xs ys : Ps} (h : Up xs) (h' : Up ys) (f : Option Fun2) (k : Int) : look k (interI f xs ys) = match look k xs, look k ys with
    | some d, some e => both f (decide (xs.length ≤ ys.length)) d e
    | _, _ => none := by
  unfold interI
  split
  · rename_i e; rw [List.length_eq_zero_iff] at e; subst e; simp [look]
  · split
    · rename_i e; rw [List.length_eq_zero_iff] at e; subst e
      cases look k xs <;> simp [look]
    · split
      · rename_i hl
        rw [look_walk h]
        cases h1 : look k xs <;> cases h2 : look k ys <;> simp [gI1, h2, both, hl]
      · rename_i hl
        rw [look_walk h']
        cases h1 : look k xs <;> cases h2 : look k ys <;> simp [gI2, h1, both, hl]
theorem look_diffI {xs : Ps} (h : Up xs) (ys : Ps) (f : Option Fun2) (k : Int) : look k (diffI f xs ys) = match look k xs, look k ys with
    | none, _ => none
    | some d, none => some d
    | some d, some e => f.bind fun op => op d e := by
  unfold diffI
  split
  · rename_i e; rw [List.length_eq_zero_iff] at e; subst e; simp [look]
  · split
    · rename_i e; rw [List.length_eq_zero_iff] at e; subst e
      cases look k xs <;> simp [look]
    · rw [look_walk h]
      cases h1 : look k xs <;> cases h2 : look k ys <;> simp [gD, h2]
      cases f with
      | none => simp
      | some op =>
        simp only [said]
        split <;> simp_all

/-- the model's -/
def gSI (op : Fun2) (ys : Ps) (k d : Int) : Option Int := (look k ys).bind (op d)
def gSD (op : Fun2) (ys : Ps) (k d : Int) : Option Int := match look k ys with
  | none => some d
  | some e => op d e
def interS (op : Fun2) (xs ys : Ps) : Ps := fmap (gSI op ys) xs
def diffS (op : Fun2) (xs ys : Ps) : Ps := fmap (gSD op ys) xs
def unionS (op : Fun2) (xs ys : Ps) : Ps := treeP ((xs.filter fun a => (look a.1 ys).isNone) ++ (ys.filter fun a => (look a.1 xs).isNone) ++ interS op xs ys)
theorem Up.interS {xs : Ps} (h : Up xs) (op : Fun2) (ys : Ps) : Up (interS op xs ys) := h.fmap _
theorem Up.diffS {xs : Ps} (h : Up xs) (op : Fun2) (ys : Ps) : Up (diffS op xs ys) := h.fmap _
theorem look_interS {xs : Ps} (h : Up xs) (op : Fun2) (ys : Ps) (k : Int) : look k (interS op xs ys) = match look k xs, look k ys with
    | some d, some e => op d e
    | _, _ => none := by
  rw [interS, look_fmap h]
  cases h1 : look k xs <;> cases h2 : look k ys <;> simp [gSI, h2]
theorem look_diffS {xs : Ps} (h : Up xs) (op : Fun2) (ys : Ps) (k : Int) : look k (diffS op xs ys) = match look k xs, look k ys with
    | none, _ => none
    | some d, none => some d
    | some d, some e => op d e := by
  rw [diffS, look_fmap h]
  cases h1 : look k xs <;> cases h2 : look k ys <;> simp [gSD, h2]
theorem look_unionS {xs ys : Ps} (h : Up xs) (h' : Up ys) (op : Fun2) (k : Int) : look k (unionS op xs ys) = match look k xs, look k ys with
    | none, o => o
    | some d, none => some d
    | some d, some e => op d e := by
  rw [unionS, look_treeP_append, look_treeP_append, treeP_up (h.interS op ys), treeP_up (List.Pairwise.filter _ h), treeP_up (List.Pairwise.filter _ h'), look_interS h, look_filter (q := fun a => (look a ys).isNone), look_filter (q := fun a => (look a xs).isNone)]
  cases h1 : look k xs <;> cases h2 : look k ys <;> simp

/-- the function never tells the first data where the second ones are others -/
def Fresh (op : Fun2) (xs ys : Ps) : Prop := ∀ k d e, look k xs = some d → look k ys = some e → op d e = some d → d = e
theorem both_some {op : Fun2} {b : Bool} {d e : Int} (h : op d e = some d → d = e) : both (some op) b d e = op d e := by
  unfold both said
  by_cases he : op d e = some d
  · simp only [if_pos he]
    have := h he
    subst this
    rw [he]; simp
  · simp [he]
theorem both_true {op : Fun2} {d e : Int} : both (some op) true d e = op d e := by
  unfold both said
  by_cases he : op d e = some d
  · simp [he]
  · simp [he]
theorem unionI_some {xs ys : Ps} (h : Up xs) (h' : Up ys) {op : Fun2} (hf : Fresh op xs ys) : unionI (some op) xs ys = unionS op xs ys :=
  (h.unionI h' _).ext (up_treeP _) fun k => by
    rw [look_unionI h h', look_unionS h h']
    cases h1 : look k xs <;> cases h2 : look k ys <;> simp only
    exact both_some (hf k _ _ h1 h2)
theorem interI_some {xs ys : Ps} (h : Up xs) (h' : Up ys) {op : Fun2} (hf : Fresh op xs ys) : interI (some op) xs ys = interS op xs ys :=
  (h.interI h' _).ext (h.interS _ _) fun k => by
    rw [look_interI h h', look_interS h]
    cases h1 : look k xs <;> cases h2 : look k ys <;> simp only
    exact both_some (hf k _ _ h1 h2)
theorem diffI_eq {xs : Ps} (h : Up xs) (ys : Ps) (f : Option Fun2) : diffI f xs ys = diffS (f.getD fun _ _ => none) xs ys :=
  (h.diffI _ _).ext (h.diffS _ _) fun k => by
    rw [look_diffI h, look_diffS h]
    cases f <;> cases h1 : look k xs <;> cases h2 : look k ys <;> simp

end Go.Proofs.Ytehegllgaiehfaa
