/- Plain facts on sorted lists of pairs and on trees; no program is walked here. -/
import Derived.Test.YtehegllgaiehfaaBase
namespace Go.Proofs.Ytehegllgaiehfaa
open Go.RowKit

theorem toL_node (b o : Nat) (a : Pl) (l r : Tr) : toL (.node b o a l r) = toL l ++ (a.1, a.2.1) :: toL r := rfl

def Srt (xs : List (Int × Value)) : Prop := xs.Pairwise fun a b => a.1 < b.1

theorem Srt.parts {b o : Nat} {a : Pl} {l r : Tr} (h : Srt (toL (.node b o a l r))) :
    Srt (toL l) ∧ Srt (toL r) ∧ (∀ x ∈ toL l, x.1 < a.1) ∧ (∀ x ∈ toL r, a.1 < x.1) ∧ (∀ x ∈ toL l, ∀ y ∈ toL r, x.1 < y.1) := by
  unfold Srt at h
  rw [toL_node] at h
  rw [List.pairwise_append, List.pairwise_cons] at h
  obtain ⟨h1, ⟨h2, h3⟩, h4⟩ := h
  exact ⟨h1, h3, fun x hx => h4 x hx (a.1, a.2.1) (List.mem_cons_self ..), fun x hx => h2 x hx, fun x hx y hy => h4 x hx y (List.mem_cons_of_mem _ hy)⟩

theorem find_left {α : Type} {p : α → Bool} {xs ys : List α} (h : ∀ a ∈ ys, p a = false) : (xs ++ ys).find? p = xs.find? p := by
  have e : ys.find? p = none := List.find?_eq_none.2 (fun a ha => by simp [h a ha])
  rw [List.find?_append, e, Option.or_none]
theorem find_right {α : Type} {p : α → Bool} {xs ys : List α} (h : ∀ a ∈ xs, p a = false) : (xs ++ ys).find? p = ys.find? p := by
  have e : xs.find? p = none := List.find?_eq_none.2 (fun a ha => by simp [h a ha])
  rw [List.find?_append, e, Option.none_or]
theorem filter_none {α : Type} {p : α → Bool} {xs : List α} (h : ∀ a ∈ xs, p a = false) : xs.filter p = [] := by
  rw [List.filter_eq_nil_iff]; intro a ha; simp [h a ha]

/-- what is found at a key -/
def atKey (x : Int) (a : Int × Value) : Bool := a.1 == x
def belowKey (x : Int) (e : Bool) (a : Int × Value) : Bool := decide (a.1 < x) || (e && a.1 == x)
def aboveKey (x : Int) (e : Bool) (a : Int × Value) : Bool := decide (x < a.1) || (e && a.1 == x)

section
variable {b o : Nat} {a : Pl} {l r : Tr} {x : Int} {e : Bool}
theorem find_lt (h : Srt (toL (.node b o a l r))) (hx : x < a.1) : (toL (.node b o a l r)).find? (atKey x) = (toL l).find? (atKey x) := by
  obtain ⟨_, _, _, h4, _⟩ := h.parts
  rw [toL_node]
  refine find_left fun c hc => ?_
  rcases List.mem_cons.1 hc with rfl | hc
  · simp [atKey]; omega
  · have := h4 c hc; simp [atKey]; omega
theorem find_gt (h : Srt (toL (.node b o a l r))) (hx : a.1 < x) : (toL (.node b o a l r)).find? (atKey x) = (toL r).find? (atKey x) := by
  obtain ⟨_, _, h3, _, _⟩ := h.parts
  rw [toL_node]
  rw [find_right (fun c hc => by have := h3 c hc; simp [atKey]; omega), List.find?_cons_of_neg (by simp [atKey]; omega)]
theorem find_eq (h : Srt (toL (.node b o a l r))) (hx : x = a.1) : (toL (.node b o a l r)).find? (atKey x) = some (a.1, a.2.1) := by
  obtain ⟨_, _, h3, _, _⟩ := h.parts
  rw [toL_node]
  rw [find_right (fun c hc => by have := h3 c hc; simp [atKey]; omega), List.find?_cons_of_pos (by simp [atKey]; omega)]

theorem glb_le (h : Srt (toL (.node b o a l r))) (hx : x ≤ a.1) (he : ¬ (e = true ∧ x = a.1)) :
    ((toL (.node b o a l r)).filter (belowKey x e)).getLast? = ((toL l).filter (belowKey x e)).getLast? := by
  obtain ⟨_, _, _, h4, _⟩ := h.parts
  rw [toL_node]
  have e1 : belowKey x e (a.1, a.2.1) = false := by cases e <;> simp [belowKey] at he ⊢ <;> omega
  rw [List.filter_append, List.filter_cons_of_neg (by simp [e1]), filter_none (xs := toL r) (fun c hc => by have := h4 c hc; simp [belowKey]; omega), List.append_nil]
theorem glb_eq (h : Srt (toL (.node b o a l r))) (hx : x = a.1) (he : e = true) :
    ((toL (.node b o a l r)).filter (belowKey x e)).getLast? = some (a.1, a.2.1) := by
  obtain ⟨_, _, _, h4, _⟩ := h.parts
  rw [toL_node]
  have e1 : belowKey x e (a.1, a.2.1) = true := by simp [belowKey, he, hx]
  rw [List.filter_append, List.filter_cons_of_pos e1, filter_none (xs := toL r) (fun c hc => by have := h4 c hc; simp [belowKey]; omega)]
  simp
theorem glb_gt (hx : a.1 < x) :
    ((toL (.node b o a l r)).filter (belowKey x e)).getLast? = (((toL r).filter (belowKey x e)).getLast?).or (some (a.1, a.2.1)) := by
  rw [toL_node]
  have e1 : belowKey x e (a.1, a.2.1) = true := by simp [belowKey, hx]
  rw [List.filter_append, List.filter_cons_of_pos e1, List.getLast?_append, List.getLast?_cons]
  cases (List.filter (belowKey x e) (toL r)).getLast? <;> simp
theorem lub_ge (h : Srt (toL (.node b o a l r))) (hx : a.1 ≤ x) (he : ¬ (e = true ∧ x = a.1)) :
    (toL (.node b o a l r)).find? (aboveKey x e) = (toL r).find? (aboveKey x e) := by
  obtain ⟨_, _, h3, _, _⟩ := h.parts
  rw [toL_node]
  have e1 : aboveKey x e (a.1, a.2.1) = false := by cases e <;> simp [aboveKey] at he ⊢ <;> omega
  rw [find_right (fun c hc => by have := h3 c hc; simp [aboveKey]; omega), List.find?_cons_of_neg (by simp [e1])]
theorem lub_eq (h : Srt (toL (.node b o a l r))) (hx : x = a.1) (he : e = true) :
    (toL (.node b o a l r)).find? (aboveKey x e) = some (a.1, a.2.1) := by
  obtain ⟨_, _, h3, _, _⟩ := h.parts
  rw [toL_node]
  rw [find_right (fun c hc => by have := h3 c hc; simp [aboveKey]; omega), List.find?_cons_of_pos (by simp [aboveKey, he, hx])]
theorem lub_lt (hx : x < a.1) :
    (toL (.node b o a l r)).find? (aboveKey x e) = ((toL l).find? (aboveKey x e)).or (some (a.1, a.2.1)) := by
  rw [toL_node]
  rw [List.find?_append, List.find?_cons_of_pos (by simp [aboveKey, hx])]
theorem min_left (hl : l ≠ .nil) : (toL (.node b o a l r)).head? = (toL l).head? := by
  cases l with
  | nil => exact absurd rfl hl
  | node b' o' a' l' r' => simp only [toL, List.head?_append]; cases (toL l').head? <;> simp
theorem max_right (hr : r ≠ .nil) : (toL (.node b o a l r)).getLast? = (toL r).getLast? := by
  cases r with
  | nil => exact absurd rfl hr
  | node b' o' a' l' r' => simp [toL, List.getLast?_append, List.getLast?_cons]
end

def tsize : Tr → Nat
  | .nil => 0
  | .node _ _ _ l r => tsize l + tsize r + 1
theorem length_toL : ∀ T : Tr, (toL T).length = tsize T
  | .nil => rfl
  | .node _ _ _ l r => by simp [toL, tsize, length_toL l, length_toL r]; omega

end Go.Proofs.Ytehegllgaiehfaa
