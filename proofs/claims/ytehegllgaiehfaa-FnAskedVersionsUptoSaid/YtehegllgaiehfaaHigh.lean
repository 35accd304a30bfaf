/- aLeftIsHigh and aRightIsHigh: what they make of a node one side of which is higher by two. -/
import Derived.Test.YtehegllgaiehfaaRot
import Derived.Test.YtehegllgaiehfaaNode2
import Derived.LaidEqlPtr
namespace Go.Proofs.Ytehegllgaiehfaa
open Go.RowKit

theorem ht_node (b o : Nat) (a : Pl) (l r : Tr) : ht (.node b o a l r) = a.2.2 := rfl

theorem avl_mk {b o : Nat} {a : Pl} {l r : Tr} (h1 : a.2.2 = 1 + max (ht l) (ht r)) (h2 : ht l ≤ ht r + 1) (h3 : ht r ≤ ht l + 1) (hl : Avl l) (hr : Avl r) : Avl (.node b o a l r) := ⟨h1, h2, h3, hl, hr⟩

/-- a node of the tree with its block and its key -/
def HasNode (b : Nat) (x : Int) : Tr → Prop
  | .nil => False
  | .node b' _ a l r => (b' = b ∧ a.1 = x) ∨ HasNode b x l ∨ HasNode b x r
def RootP (p : Nat → Prop) : Tr → Prop
  | .nil => False
  | .node b _ _ _ _ => p b
theorem RootP.mono {p q : Nat → Prop} (h : ∀ b, p b → q b) : ∀ {T : Tr}, RootP p T → RootP q T
  | .nil, hp => hp
  | .node _ _ _ _ _, hp => h _ hp

/-- the block of a node has one key, so a block with another key is no block of a tree -/
theorem In.key_mem {w : World} {b : Nat} {l r d : Value} {k h : Int} (hb : w.heap[b]? = some (nodeObj l r d k h)) : ∀ {T : Tr}, In w T → Blk b T → ∃ v, (k, v) ∈ toL T
  | .nil, _, h => h.elim
  | .node b' o a tl tr, hi, hB => by
    rcases hB with rfl | hB | hB
    · have h1 := hi.2.1
      rw [hb] at h1
      simp only [nodeObj, Option.some.injEq, Obj.cells.injEq, List.toArray_eq_iff, List.cons.injEq] at h1
      simp at h1
      exact ⟨a.2.1, by rw [toL_node, h1.2.2.2.1]; simp⟩
    · obtain ⟨v, hv⟩ := In.key_mem hb hi.2.2.1 hB
      exact ⟨v, by rw [toL_node]; exact List.mem_append_left _ hv⟩
    · obtain ⟨v, hv⟩ := In.key_mem hb hi.2.2.2 hB
      exact ⟨v, by rw [toL_node]; exact List.mem_append_right _ (List.mem_cons_of_mem _ hv)⟩
theorem In.not_blk {w : World} {b : Nat} {l r d : Value} {k h : Int} {T : Tr} (hi : In w T) (hb : w.heap[b]? = some (nodeObj l r d k h)) (hk : ∀ v, (k, v) ∉ toL T) : ¬ Blk b T := fun hB => by
  obtain ⟨v, hv⟩ := hi.key_mem hb hB
  exact hk v hv

/-- whether two pointers to blocks are the same -/
theorem run_neq_ptr {w : World} {p q : Nat} {cp cq : Array Value} {tp tq : TypeId} (hp : w.heap[p]? = some (.cells cp tp (0, 0))) (hq : w.heap[q]? = some (.cells cq tq (0, 0))) :
    (binOp .neq 76 (.pointer (some ⟨p, 0, none⟩)) (.pointer (some ⟨q, 0, none⟩))).run Try.prog w = .ok (.bool (!decide (p = q))) w := by
  obtain ⟨j, hj, hs⟩ : ∃ j, Try.prog.info? 104 = some j ∧ j.size ≠ 0 := by
    have h : (Try.prog.info? 104).map (fun i => decide (i.size = 0)) = some false := by kernel_rfl
    cases hh : Try.prog.info? 104 with
    | none => rw [hh] at h; cases h
    | some j => rw [hh] at h; exact ⟨j, rfl, by simpa using h⟩
  have hu : Try.prog.underlying 76 = some (.pointer 104) := by kernel_rfl
  by_cases e : p = q
  · subst e
    have h : ∀ d : Nat, (Op.equalIn (d + 1) 76 (.pointer (some ⟨p, 0, none⟩)) (.pointer (some ⟨p, 0, none⟩))).run Try.prog w = .ok true w := fun d => by
      simp [Op.equalIn, run_underlying hu, sizeOf, typeInfo, hj, run_sameAddr_same]
    simp only [binOp]
    simp [Op.equal, Op.maxDepth, h 9999]
  · have h : ∀ d : Nat, (Op.equalIn (d + 1) 76 (.pointer (some ⟨p, 0, none⟩)) (.pointer (some ⟨q, 0, none⟩))).run Try.prog w = .ok false w := fun d => by
      simp [Op.equalIn, run_underlying hu, sizeOf, typeInfo, hj, hs, run_sameAddr_other w (a := ⟨p, 0, none⟩) (b := ⟨q, 0, none⟩) (by intro he; cases he; exact e rfl) hp hq]
    simp only [binOp]
    simp [Op.equal, Op.maxDepth, h 9999, e]
theorem run_neq_nil_ptr {w : World} {q : Addr} :
    (binOp .neq 76 (.pointer none) (.pointer (some q))).run Try.prog w = .ok (.bool true) w := by
  have hu : Try.prog.underlying 76 = some (.pointer 104) := by kernel_rfl
  have h : ∀ d : Nat, (Op.equalIn (d + 1) 76 (.pointer none) (.pointer (some q))).run Try.prog w = .ok false w := fun d => by
    simp [Op.equalIn, run_underlying hu]
  simp only [binOp]
  simp [Op.equal, Op.maxDepth, h 9999]

/-- the nodes' data are interface values -/
def DataOk : Tr → Prop
  | .nil => True
  | .node _ _ a l r => ((∃ t v, a.2.1 = .iface t v) ∨ a.2.1 = .nilIface) ∧ DataOk l ∧ DataOk r

/-- a tree as the calls want it: in memory, sorted, balanced, of bounded height -/
structure Fine (w : World) (T : Tr) : Prop where
  inn : In w T
  avl : Avl T
  srt : Srt (toL T)
  dat : DataOk T
  bnd : ht T ≤ 90

theorem Avl.ht_nonneg : ∀ {T : Tr}, Avl T → 0 ≤ ht T
  | .nil, _ => by simp [ht]
  | .node _ _ a l r, h => by
    have h1 := Avl.ht_nonneg h.2.2.2.1
    have h2 := h.1
    show 0 ≤ a.2.2
    omega

def CopyPost (w : World) (o : Obj) (e : Ending) (w' : World) : Prop := e = .returned (.pointer (some ⟨w.heap.size, 0, none⟩)) ∧ w'.heap[w.heap.size]? = some o ∧ Kept Non w w' ∧ w.heap.size < w'.heap.size
theorem copy_abs (w : World) (b : Nat) (l r d : Value) (k h : Int) (hl : ∃ u, l = .pointer u) (hr : ∃ u, r = .pointer u) (hd : (∃ t v, d = .iface t v) ∨ d = .nilIface) (hn : w.heap[b]? = some (nodeObj l r d k h)) :
    Calls Try.prog 90 #[.pointer (some ⟨b, 0, none⟩)] w (CopyPost w (nodeObj l r d k h)) :=
  (copy_some w b l r d k h hl hr hd (nodeAt hn)).mono fun e w' ⟨he, hw⟩ => by
    subst he; subst hw
    exact ⟨rfl, alloc_new _ _, (Kept.refl _ _).alloc _, by simp⟩

def HighPost (w : World) (T0 : Tr) (S : Nat → Prop) (hR : Int) (q : Value) (root : Nat → Prop) (e : Ending) (w' : World) : Prop :=
  ∃ T' : Tr, e = .returned T'.ptr ∧ In w' T' ∧ toL T' = toL T0 ∧ Avl T' ∧ DataOk T' ∧ (ht T' = hR + 2 ∨ ht T' = hR + 3) ∧ Kept S w w' ∧ RootP root T' ∧
    ∀ b x, q = .pointer (some ⟨b, 0, none⟩) → HasNode b x T0 → HasNode b x T'


/-- which keys lie where -/
theorem aLeftIsHigh_keys {tb lb : Nat} {A B R : Tr} {d d' : Value} {k k' h h' : Int} (hs : Srt (toL (.node tb 0 (k, d, h) (.node lb 0 (k', d', h') A B) R))) :
    (∀ v, (k, v) ∉ toL A) ∧ (∀ v, (k, v) ∉ toL B) ∧ (∀ v, (k, v) ∉ toL R) ∧ (∀ v, (k', v) ∉ toL A) ∧ (∀ v, (k', v) ∉ toL B) ∧ (∀ v, (k', v) ∉ toL R) ∧ k ≠ k' ∧ Srt (toL B) ∧
    (∀ x v u, (x, v) ∈ toL B → (x, u) ∉ toL A) ∧ (∀ x v u, (x, v) ∈ toL B → (x, u) ∉ toL R) := by
  obtain ⟨h1, h2, h3, h4, h5⟩ := hs.parts
  obtain ⟨g1, g2, g3, g4, g5⟩ := Srt.parts h1
  have hk' : k' < k := h3 (k', d') (by rw [toL_node]; simp)
  refine ⟨fun v hv => ?_, fun v hv => ?_, fun v hv => ?_, fun v hv => ?_, fun v hv => ?_, fun v hv => ?_, by omega, g2, fun x v u hv hu => ?_, fun x v u hv hu => ?_⟩
  · have := g3 _ hv; simp at this; omega
  · have := h3 (k, v) (by rw [toL_node]; exact List.mem_append_right _ (List.mem_cons_of_mem _ hv)); simp at this
  · have := h4 _ hv; simp at this
  · have := g3 _ hv; simp at this
  · have := g4 _ hv; simp at this
  · have := h4 _ hv; simp at this; omega
  · have := g3 _ hu; have := g4 _ hv; simp at *; omega
  · have a1 := h4 _ hu
    have a2 := h3 (x, v) (by rw [toL_node]; exact List.mem_append_right _ (List.mem_cons_of_mem _ hv))
    simp at a1 a2; omega

set_option maxRecDepth 100000 in
theorem aLeftIsHigh_single (w : World) (tb lb : Nat) (A B R : Tr) (d d' : Value) (k k' h h' : Int) (u : Option Addr)
    (hi : In w (.node tb 0 (k, d, h) (.node lb 0 (k', d', h') A B) R)) (hs : Srt (toL (.node tb 0 (k, d, h) (.node lb 0 (k', d', h') A B) R))) (hd : DataOk (.node tb 0 (k, d, h) (.node lb 0 (k', d', h') A B) R))
    (hl : Avl (.node lb 0 (k', d', h') A B)) (hr : Avl R) (hh : h' = ht R + 2) (hb : ht R ≤ 90) (hAB : ¬ ht A < ht B) :
    Calls Try.prog 92 #[.pointer (some ⟨tb, 0, none⟩), .pointer u] w
      (HighPost w (.node tb 0 (k, d, h) (.node lb 0 (k', d', h') A B) R) (Two tb lb) (ht R) (.pointer u) (One lb)) := by
  obtain ⟨k1, k2, k3, k4, k5, k6, k7, k8, k9, k10⟩ := aLeftIsHigh_keys hs
  have hT : w.heap[tb]? = some (nodeObj (.pointer (some ⟨lb, 0, none⟩)) R.ptr d k h) := hi.2.1
  have hL : w.heap[lb]? = some (nodeObj A.ptr B.ptr d' k' h') := hi.2.2.1.2.1
  have iA : In w A := hi.2.2.1.2.2.1
  have iB : In w B := hi.2.2.1.2.2.2
  have iR : In w R := hi.2.2.2
  obtain ⟨e1, e2, e3, e4, e5⟩ := hl
  have hA0 := Avl.ht_nonneg e4
  have hB0 := Avl.ht_nonneg e5
  have hR0 := Avl.ht_nonneg hr
  simp only at e1
  have hne : tb ≠ lb := fun e => by
    subst e; rw [hT] at hL
    simp only [nodeObj, Option.some.injEq, Obj.cells.injEq, List.toArray_eq_iff, List.cons.injEq] at hL
    simp at hL
    exact k7 hL.2.2.2.1
  have nA := And.intro (iA.not_blk hT k1) (iA.not_blk hL k4)
  have nB := And.intro (iB.not_blk hT k2) (iB.not_blk hL k5)
  have nR := And.intro (iR.not_blk hT k3) (iR.not_blk hL k6)
  have hrot := fun (W : World) (hK : Kept Non w W) => leftToRoot_any W tb lb R B A d d' k k' h h' ((hK.block _ (block_lt hT) (fun h => h)).trans hT) ((hK.block _ (block_lt hL) (fun h => h)).trans hL) hne (iR.ext hK) (iB.ext hK) (iA.ext hK) nR nB nA ⟨hR0, by omega⟩ ⟨hB0, by omega⟩ ⟨hA0, by omega⟩
  have HR : Hid (∀ (W : World), Kept Non w W → Calls Try.prog 100 #[.pointer (some ⟨tb, 0, none⟩)] W (RotPost W tb lb (nodeObj B.ptr R.ptr d k (1 + max (ht B) (ht R))) (nodeObj A.ptr (.pointer (some ⟨tb, 0, none⟩)) d' k' (1 + max (1 + max (ht B) (ht R)) (ht A))))) := hrot
  clear hrot
  obtain ⟨uA, eA⟩ := ptr_form A
  obtain ⟨uB, eB⟩ := ptr_form B
  obtain ⟨t0, t1, t2, t3, t4, tf⟩ := nodeAt hT
  obtain ⟨l0, l1, l2, l3, l4, lf⟩ := nodeAt hL
  have cA := height_at w.drew A _ eA iA.drew
  have cB := height_at w.drew B _ eB iB.drew
  have HN : Hid (In w A ∧ In w B ∧ In w R ∧ (¬ Blk tb A ∧ ¬ Blk lb A) ∧ (¬ Blk tb B ∧ ¬ Blk lb B) ∧ (¬ Blk tb R ∧ ¬ Blk lb R)) := ⟨iA, iB, iR, nA, nB, nR⟩
  have HD : Hid (DataOk (.node tb 0 (k, d, h) (.node lb 0 (k', d', h') A B) R)) := hd
  have HE : Hid (Avl A ∧ Avl B ∧ Avl R ∧ h' = 1 + max (ht A) (ht B) ∧ ht A ≤ ht B + 1 ∧ h' = ht R + 2) := ⟨e4, e5, hr, by omega, by omega, hh⟩
  clear k1 k2 k3 k4 k5 k6 k7 k8 k9 k10 hs hd hi hT hL iA iB iR e1 e2 e3 e4 e5 nA nB nR hr hh
  go_enter Try.func92, Try.ntmps92
  go_wp2
  refine wp_region_still_lit (by kernel_rfl) (by kernel_rfl) ?_
  iterate 4 still_step
  still_call cA
  iterate 4 still_step
  still_call cB
  still_step
  refine wpStill_nil ?_
  go_wp2_with fail
  refine (HR.out _ (Kept.refl _ _).drew).mono ?_
  rintro e W ⟨rfl, r1, r2, r3⟩
  go_wp2
  go_ret
  obtain ⟨iA, iB, iR, nA, nB, nR⟩ := HN.out
  obtain ⟨v1, v2, v3, v4, v5, v6⟩ := HE.out
  have hd := HD.out
  have hK : Kept (Two tb lb) w W := (Kept.refl _ _).drew.trans r3
  have out : ∀ {X : Tr}, In w X → (¬ Blk tb X ∧ ¬ Blk lb X) → In W X := fun hx hn => hx.kept hK (fun b hb h => h.elim (fun e => hn.1 (e ▸ hb)) (fun e => hn.2 (e ▸ hb)))
  refine ⟨.node lb 0 (k', d', 1 + max (1 + max (ht B) (ht R)) (ht A)) A (.node tb 0 (k, d, 1 + max (ht B) (ht R)) B R), rfl, ?_, ?_, ?_, ?_, ?_, hK, rfl, ?_⟩
  · exact ⟨rfl, r2, out iA nA, rfl, r1, out iB nB, out iR nR⟩
  · simp [toL]
  · refine avl_mk ?_ ?_ ?_ v1 (avl_mk ?_ ?_ ?_ v2 v3)
    all_goals (first | (simp only [ht_node]; omega) | rfl | omega)
  · exact ⟨hd.2.1.1, hd.2.1.2.1, hd.1, hd.2.1.2.2, hd.2.2⟩
  · simp only [ht_node]; omega
  · intro b x _ hn
    simp only [HasNode] at hn ⊢
    rcases hn with hn | (hn | hn | hn) | hn <;> simp [hn]


/-- which keys lie where -/
theorem aRightIsHigh_keys {tb lb : Nat} {A B R : Tr} {d d' : Value} {k k' h h' : Int} (hs : Srt (toL (.node tb 0 (k, d, h) R (.node lb 0 (k', d', h') B A)))) :
    (∀ v, (k, v) ∉ toL A) ∧ (∀ v, (k, v) ∉ toL B) ∧ (∀ v, (k, v) ∉ toL R) ∧ (∀ v, (k', v) ∉ toL A) ∧ (∀ v, (k', v) ∉ toL B) ∧ (∀ v, (k', v) ∉ toL R) ∧ k ≠ k' ∧ Srt (toL B) ∧
    (∀ x v u, (x, v) ∈ toL B → (x, u) ∉ toL A) ∧ (∀ x v u, (x, v) ∈ toL B → (x, u) ∉ toL R) := by
  obtain ⟨h1, h2, h3, h4, h5⟩ := hs.parts
  obtain ⟨g1, g2, g3, g4, g5⟩ := Srt.parts h2
  have hk' : k < k' := h4 (k', d') (by rw [toL_node]; simp)
  refine ⟨fun v hv => ?_, fun v hv => ?_, fun v hv => ?_, fun v hv => ?_, fun v hv => ?_, fun v hv => ?_, by omega, g1, fun x v u hv hu => ?_, fun x v u hv hu => ?_⟩
  · have := g4 _ hv; simp at this; omega
  · have := h4 (k, v) (by rw [toL_node]; exact List.mem_append_left _ hv); simp at this
  · have := h3 _ hv; simp at this
  · have := g4 _ hv; simp at this
  · have := g3 _ hv; simp at this
  · have := h3 _ hv; simp at this; omega
  · have := g4 _ hu; have := g3 _ hv; simp at *; omega
  · have a1 := h3 _ hu
    have a2 := h4 (x, v) (by rw [toL_node]; exact List.mem_append_left _ hv)
    simp at a1 a2; omega

set_option maxRecDepth 100000 in
theorem aRightIsHigh_single (w : World) (tb lb : Nat) (A B R : Tr) (d d' : Value) (k k' h h' : Int) (u : Option Addr)
    (hi : In w (.node tb 0 (k, d, h) R (.node lb 0 (k', d', h') B A))) (hs : Srt (toL (.node tb 0 (k, d, h) R (.node lb 0 (k', d', h') B A)))) (hd : DataOk (.node tb 0 (k, d, h) R (.node lb 0 (k', d', h') B A)))
    (hl : Avl (.node lb 0 (k', d', h') B A)) (hr : Avl R) (hh : h' = ht R + 2) (hb : ht R ≤ 90) (hAB : ¬ ht A < ht B) :
    Calls Try.prog 93 #[.pointer (some ⟨tb, 0, none⟩), .pointer u] w
      (HighPost w (.node tb 0 (k, d, h) R (.node lb 0 (k', d', h') B A)) (Two tb lb) (ht R) (.pointer u) (One lb)) := by
  obtain ⟨k1, k2, k3, k4, k5, k6, k7, k8, k9, k10⟩ := aRightIsHigh_keys hs
  have hT : w.heap[tb]? = some (nodeObj R.ptr (.pointer (some ⟨lb, 0, none⟩)) d k h) := hi.2.1
  have hL : w.heap[lb]? = some (nodeObj B.ptr A.ptr d' k' h') := hi.2.2.2.2.1
  have iA : In w A := hi.2.2.2.2.2.2
  have iB : In w B := hi.2.2.2.2.2.1
  have iR : In w R := hi.2.2.1
  obtain ⟨e1, e2, e3, e4, e5⟩ := hl
  have hA0 := Avl.ht_nonneg e5
  have hB0 := Avl.ht_nonneg e4
  have hR0 := Avl.ht_nonneg hr
  simp only at e1
  have hne : tb ≠ lb := fun e => by
    subst e; rw [hT] at hL
    simp only [nodeObj, Option.some.injEq, Obj.cells.injEq, List.toArray_eq_iff, List.cons.injEq] at hL
    simp at hL
    exact k7 hL.2.2.2.1
  have nA := And.intro (iA.not_blk hT k1) (iA.not_blk hL k4)
  have nB := And.intro (iB.not_blk hT k2) (iB.not_blk hL k5)
  have nR := And.intro (iR.not_blk hT k3) (iR.not_blk hL k6)
  have hrot := fun (W : World) (hK : Kept Non w W) => rightToRoot_any W tb lb R B A d d' k k' h h' ((hK.block _ (block_lt hT) (fun h => h)).trans hT) ((hK.block _ (block_lt hL) (fun h => h)).trans hL) hne (iR.ext hK) (iB.ext hK) (iA.ext hK) nR nB nA ⟨hR0, by omega⟩ ⟨hB0, by omega⟩ ⟨hA0, by omega⟩
  have HR : Hid (∀ (W : World), Kept Non w W → Calls Try.prog 99 #[.pointer (some ⟨tb, 0, none⟩)] W (RotPost W tb lb (nodeObj R.ptr B.ptr d k (1 + max (ht B) (ht R))) (nodeObj (.pointer (some ⟨tb, 0, none⟩)) A.ptr d' k' (1 + max (1 + max (ht B) (ht R)) (ht A))))) := hrot
  clear hrot
  obtain ⟨uA, eA⟩ := ptr_form A
  obtain ⟨uB, eB⟩ := ptr_form B
  obtain ⟨t0, t1, t2, t3, t4, tf⟩ := nodeAt hT
  obtain ⟨l0, l1, l2, l3, l4, lf⟩ := nodeAt hL
  have cA := height_at w.drew A _ eA iA.drew
  have cB := height_at w.drew B _ eB iB.drew
  have HN : Hid (In w A ∧ In w B ∧ In w R ∧ (¬ Blk tb A ∧ ¬ Blk lb A) ∧ (¬ Blk tb B ∧ ¬ Blk lb B) ∧ (¬ Blk tb R ∧ ¬ Blk lb R)) := ⟨iA, iB, iR, nA, nB, nR⟩
  have HD : Hid (DataOk (.node tb 0 (k, d, h) R (.node lb 0 (k', d', h') B A))) := hd
  have HE : Hid (Avl A ∧ Avl B ∧ Avl R ∧ h' = 1 + max (ht A) (ht B) ∧ ht A ≤ ht B + 1 ∧ h' = ht R + 2) := ⟨e5, e4, hr, by omega, by omega, hh⟩
  clear k1 k2 k3 k4 k5 k6 k7 k8 k9 k10 hs hd hi hT hL iA iB iR e1 e2 e3 e4 e5 nA nB nR hr hh
  go_enter Try.func93, Try.ntmps93
  go_wp2
  refine wp_region_still_lit (by kernel_rfl) (by kernel_rfl) ?_
  iterate 4 still_step
  still_call cA
  iterate 4 still_step
  still_call cB
  still_step
  refine wpStill_nil ?_
  go_wp2_with fail
  refine (HR.out _ (Kept.refl _ _).drew).mono ?_
  rintro e W ⟨rfl, r1, r2, r3⟩
  go_wp2
  go_ret
  obtain ⟨iA, iB, iR, nA, nB, nR⟩ := HN.out
  obtain ⟨v1, v2, v3, v4, v5, v6⟩ := HE.out
  have hd := HD.out
  have hK : Kept (Two tb lb) w W := (Kept.refl _ _).drew.trans r3
  have out : ∀ {X : Tr}, In w X → (¬ Blk tb X ∧ ¬ Blk lb X) → In W X := fun hx hn => hx.kept hK (fun b hb h => h.elim (fun e => hn.1 (e ▸ hb)) (fun e => hn.2 (e ▸ hb)))
  refine ⟨.node lb 0 (k', d', 1 + max (1 + max (ht B) (ht R)) (ht A)) (.node tb 0 (k, d, 1 + max (ht B) (ht R)) R B) A, rfl, ?_, ?_, ?_, ?_, ?_, hK, rfl, ?_⟩
  · exact ⟨rfl, r2, ⟨rfl, r1, out iR nR, out iB nB⟩, out iA nA⟩
  · simp [toL]
  · refine avl_mk ?_ ?_ ?_ (avl_mk ?_ ?_ ?_ v3 v2) v1
    all_goals (first | (simp only [ht_node]; omega) | rfl | omega)
  · exact ⟨hd.2.2.1, ⟨hd.1, hd.2.1, hd.2.2.2.1⟩, hd.2.2.2.2⟩
  · simp only [ht_node]; omega
  · intro b x _ hn
    simp only [HasNode] at hn ⊢
    rcases hn with hn | hn | (hn | hn | hn) <;> simp [hn]


set_option maxRecDepth 100000 in
set_option maxHeartbeats 1000000 in
theorem aLeftIsHigh_copied (w : World) (tb lb bb : Nat) (A BI BO R : Tr) (d d' db : Value) (k k' kb h h' hb : Int) (u : Option Addr) (hq : u = none ∨ ∃ p c t, u = some ⟨p, 0, none⟩ ∧ w.heap[p]? = some (.cells c t (0, 0)) ∧ p ≠ bb)
    (hi : In w (.node tb 0 (k, d, h) (.node lb 0 (k', d', h') A (.node bb 0 (kb, db, hb) BI BO)) R)) (hs : Srt (toL (.node tb 0 (k, d, h) (.node lb 0 (k', d', h') A (.node bb 0 (kb, db, hb) BI BO)) R))) (hd : DataOk (.node tb 0 (k, d, h) (.node lb 0 (k', d', h') A (.node bb 0 (kb, db, hb) BI BO)) R))
    (hl : Avl (.node lb 0 (k', d', h') A (.node bb 0 (kb, db, hb) BI BO))) (hr : Avl R) (hh : h' = ht R + 2) (hbd : ht R ≤ 90) (hAB : ht A < hb) :
    Calls Try.prog 92 #[.pointer (some ⟨tb, 0, none⟩), .pointer u] w
      (HighPost w (.node tb 0 (k, d, h) (.node lb 0 (k', d', h') A (.node bb 0 (kb, db, hb) BI BO)) R) (Two tb lb) (ht R) (.pointer u) (One w.heap.size)) := by
  obtain ⟨k1, k2, k3, k4, k5, k6, k7, k8, k9, k10⟩ := aLeftIsHigh_keys hs
  have hT : w.heap[tb]? = some (nodeObj (.pointer (some ⟨lb, 0, none⟩)) R.ptr d k h) := hi.2.1
  have hL : w.heap[lb]? = some (nodeObj A.ptr (.pointer (some ⟨bb, 0, none⟩)) d' k' h') := hi.2.2.1.2.1
  have iA : In w A := hi.2.2.1.2.2.1
  have iB0 : In w (.node bb 0 (kb, db, hb) BI BO) := hi.2.2.1.2.2.2
  have iR : In w R := hi.2.2.2
  have hB : w.heap[bb]? = some (nodeObj BI.ptr BO.ptr db kb hb) := iB0.2.1
  have iBI : In w BI := iB0.2.2.1
  have iBO : In w BO := iB0.2.2.2
  have mb : (kb, db) ∈ toL (.node bb 0 (kb, db, hb) BI BO) := by rw [toL_node]; simp
  have sub1 : ∀ x ∈ toL BI, x ∈ toL (.node bb 0 (kb, db, hb) BI BO) := fun x hx => by rw [toL_node]; exact List.mem_append_left _ hx
  have sub2 : ∀ x ∈ toL BO, x ∈ toL (.node bb 0 (kb, db, hb) BI BO) := fun x hx => by rw [toL_node]; exact List.mem_append_right _ (List.mem_cons_of_mem _ hx)
  obtain ⟨b1, b2, b3, b4, b5⟩ := k8.parts
  obtain ⟨e1, e2, e3, e4, e5⟩ := hl
  have eA : Avl A := e4
  obtain ⟨q1, q2, q3, q4, q5⟩ := e5
  simp only [ht_node] at e1 e2 e3 q1
  have hA0 := Avl.ht_nonneg eA
  have hI0 := Avl.ht_nonneg q4
  have hO0 := Avl.ht_nonneg q5
  have hR0 := Avl.ht_nonneg hr
  have differ : ∀ {p q : Nat} {l1 r1 d1 l2 r2 d2 : Value} {x1 x2 h1 h2 : Int}, w.heap[p]? = some (nodeObj l1 r1 d1 x1 h1) → w.heap[q]? = some (nodeObj l2 r2 d2 x2 h2) → x1 ≠ x2 → p ≠ q := fun hp hq hx e => by
    subst e; rw [hp] at hq
    simp only [nodeObj, Option.some.injEq, Obj.cells.injEq, List.toArray_eq_iff, List.cons.injEq] at hq
    simp at hq
    exact hx hq.2.2.2.1
  have hne : tb ≠ lb := differ hT hL k7
  have kkb : k ≠ kb := fun e => k2 db (e ▸ mb)
  have kkb' : k' ≠ kb := fun e => k5 db (e ▸ mb)
  have n1 : tb ≠ w.heap.size := Nat.ne_of_lt (block_lt hT)
  have n2 : lb ≠ w.heap.size := Nat.ne_of_lt (block_lt hL)
  have nA : ¬ Blk tb A ∧ ¬ Blk lb A ∧ ¬ Blk w.heap.size A := ⟨iA.not_blk hT k1, iA.not_blk hL k4, fun hb => Nat.lt_irrefl _ (iA.blk_lt hb)⟩
  have nR : ¬ Blk tb R ∧ ¬ Blk lb R ∧ ¬ Blk w.heap.size R := ⟨iR.not_blk hT k3, iR.not_blk hL k6, fun hb => Nat.lt_irrefl _ (iR.blk_lt hb)⟩
  have nI : ¬ Blk tb BI ∧ ¬ Blk lb BI ∧ ¬ Blk w.heap.size BI := ⟨iBI.not_blk hT (fun v hv => k2 v (sub1 _ hv)), iBI.not_blk hL (fun v hv => k5 v (sub1 _ hv)), fun hb => Nat.lt_irrefl _ (iBI.blk_lt hb)⟩
  have nO : ¬ Blk tb BO ∧ ¬ Blk lb BO ∧ ¬ Blk w.heap.size BO := ⟨iBO.not_blk hT (fun v hv => k2 v (sub2 _ hv)), iBO.not_blk hL (fun v hv => k5 v (sub2 _ hv)), fun hb => Nat.lt_irrefl _ (iBO.blk_lt hb)⟩

  have hcmp : ∀ W : World, Kept Non w W → (binOp .neq 76 (.pointer u) (.pointer (some ⟨bb, 0, none⟩))).run Try.prog W = .ok (.bool true) W := fun W hK => by
    rcases hq with rfl | ⟨p, c, t, rfl, hp, hpb⟩
    · exact run_neq_nil_ptr
    · rw [run_neq_ptr ((hK.block _ (block_lt hp) (fun h => h)).trans hp) ((hK.block _ (block_lt hB) (fun h => h)).trans hB)]; simp [hpb]
  have hcm := hcmp w.drew (Kept.refl _ _).drew
  clear hcmp
  obtain ⟨uA, fA⟩ := ptr_form A
  obtain ⟨uI, fI⟩ := ptr_form BI
  obtain ⟨uO, fO⟩ := ptr_form BO
  obtain ⟨t0, t1, t2, t3, t4, tf⟩ := nodeAt hT
  obtain ⟨l0, l1, l2, l3, l4, lf⟩ := nodeAt hL
  obtain ⟨p0, p1, p2, p3, p4, pf⟩ := nodeAt hB
  have cA := height_at w.drew A _ fA iA.drew
  have cB := height_some w.drew bb hb p4
  have dB : (∃ t v, db = .iface t v) ∨ db = .nilIface := hd.2.1.2.2.1
  have HC : Hid (Calls Try.prog 90 #[.pointer (some ⟨bb, 0, none⟩)] w.drew (CopyPost w.drew (nodeObj BI.ptr BO.ptr db kb hb))) := copy_abs w.drew bb _ _ db kb hb (ptr_form _) (ptr_form _) dB hB
  have stay : ∀ W : World, Kept (Two tb lb) w W → ∀ {X : Tr}, In w X → (¬ Blk tb X ∧ ¬ Blk lb X ∧ ¬ Blk w.heap.size X) → In W X := fun W hK X hx hn => hx.kept hK (fun b hb h => h.elim (fun e => hn.1 (e ▸ hb)) (fun e => hn.2.1 (e ▸ hb)))
  have HR1 : Hid (∀ W : World, W.heap[lb]? = some (nodeObj A.ptr (.pointer (some ⟨w.heap.size, 0, none⟩)) d' k' h') → W.heap[w.heap.size]? = some (nodeObj BI.ptr BO.ptr db kb hb) → Kept (Two tb lb) w W → Calls Try.prog 99 #[.pointer (some ⟨lb, 0, none⟩)] W (RotPost W lb w.heap.size (nodeObj A.ptr BI.ptr d' k' (1 + max (ht BI) (ht A))) (nodeObj (.pointer (some ⟨lb, 0, none⟩)) BO.ptr db kb (1 + max (1 + max (ht BI) (ht A)) (ht BO))))) :=
    fun W h1 h2 hK => rightToRoot_any W lb w.heap.size A BI BO d' db k' kb h' hb h1 h2 n2 (stay W hK iA nA) (stay W hK iBI nI) (stay W hK iBO nO) nA.2 nI.2 nO.2 ⟨hA0, by omega⟩ ⟨hI0, by omega⟩ ⟨hO0, by omega⟩
  have HR2 : Hid (∀ (W : World) (H : Int), W.heap[tb]? = some (nodeObj (.pointer (some ⟨w.heap.size, 0, none⟩)) R.ptr d k h) → W.heap[w.heap.size]? = some (nodeObj (.pointer (some ⟨lb, 0, none⟩)) BO.ptr db kb H) → W.heap[lb]? = some (nodeObj A.ptr BI.ptr d' k' (1 + max (ht BI) (ht A))) → Kept (Two tb lb) w W → Calls Try.prog 100 #[.pointer (some ⟨tb, 0, none⟩)] W (RotPost W tb w.heap.size (nodeObj BO.ptr R.ptr d k (1 + max (ht BO) (ht R))) (nodeObj (.pointer (some ⟨lb, 0, none⟩)) (.pointer (some ⟨tb, 0, none⟩)) db kb (1 + max (1 + max (ht BO) (ht R)) (1 + max (ht BI) (ht A)))))) :=
    fun W H h1 h2 h3 hK => leftToRoot_any W tb w.heap.size R BO (.node lb 0 (k', d', 1 + max (ht BI) (ht A)) A BI) d db k kb h H h1 h2 n1 (stay W hK iR nR) (stay W hK iBO nO) ⟨rfl, h3, stay W hK iA nA, stay W hK iBI nI⟩ ⟨nR.1, nR.2.2⟩ ⟨nO.1, nO.2.2⟩ ⟨fun hb => Or.elim hb (fun e => hne e.symm) (fun h => Or.elim h nA.1 nI.1), fun hb => Or.elim hb n2 (fun h => Or.elim h nA.2.2 nI.2.2)⟩ ⟨hR0, by omega⟩ ⟨hO0, by omega⟩ ⟨by simp only [ht_node]; omega, by simp only [ht_node]; omega⟩
  have HN : Hid (In w A ∧ In w BI ∧ In w BO ∧ In w R ∧ (¬ Blk tb A ∧ ¬ Blk lb A ∧ ¬ Blk w.heap.size A) ∧ (¬ Blk tb BI ∧ ¬ Blk lb BI ∧ ¬ Blk w.heap.size BI) ∧ (¬ Blk tb BO ∧ ¬ Blk lb BO ∧ ¬ Blk w.heap.size BO) ∧ (¬ Blk tb R ∧ ¬ Blk lb R ∧ ¬ Blk w.heap.size R)) := ⟨iA, iBI, iBO, iR, nA, nI, nO, nR⟩
  have HD : Hid (DataOk (.node tb 0 (k, d, h) (.node lb 0 (k', d', h') A (.node bb 0 (kb, db, hb) BI BO)) R)) := hd
  have HE : Hid (Avl A ∧ Avl BI ∧ Avl BO ∧ Avl R ∧ ht A = ht R ∧ hb = ht R + 1 ∧ hb = 1 + max (ht BI) (ht BO) ∧ ht BI ≤ ht BO + 1 ∧ ht BO ≤ ht BI + 1) := ⟨eA, q4, q5, hr, by omega, by omega, by omega, by omega, by omega⟩
  have HT : Hid (w.heap[tb]? = some (nodeObj (.pointer (some ⟨lb, 0, none⟩)) R.ptr d k h)) := hT
  have HL : Hid (w.heap[lb]? = some (nodeObj A.ptr (.pointer (some ⟨bb, 0, none⟩)) d' k' h')) := hL
  have HB : Hid (w.heap[bb]? = some (nodeObj BI.ptr BO.ptr db kb hb)) := hB
  have hbnd : ht A ≤ 100 ∧ ht BI ≤ 100 ∧ ht BO ≤ 100 ∧ ht R ≤ 100 := by omega
  clear k1 k2 k3 k4 k5 k6 k7 k8 k9 k10 hs hd hi hT hL hB iA iB0 iBI iBO iR e1 e2 e3 e4 eA q1 q2 q3 q4 q5 b1 b2 b3 b4 b5 nA nR nI nO hr hh differ kkb kkb' mb sub1 sub2 dB
  go_enter Try.func92, Try.ntmps92
  go_wp2
  refine wp_region_still_lit (by kernel_rfl) (by kernel_rfl) ?_
  iterate 4 still_step
  still_call cA
  iterate 4 still_step
  still_call cB
  still_step
  refine wpStill_nil ?_
  clear cA cB
  go_wp2_with fail
  refine HC.out.mono ?_
  rintro e W1 ⟨rfl, hN1, hK1, hz1⟩
  have hK1' : Kept Non w W1 := (Kept.refl _ _).drew.trans hK1
  have hT1 : W1.heap[tb]? = _ := (hK1'.block _ (block_lt HT.out) (fun h => h)).trans HT.out
  have hL1 : W1.heap[lb]? = _ := (hK1'.block _ (block_lt HL.out) (fun h => h)).trans HL.out
  have hN1' : W1.heap[w.heap.size]? = some (nodeObj BI.ptr BO.ptr db kb hb) := hN1
  have L1 := nodeAt hL1
  have HX : Hid (W1.heap[tb]? = some (nodeObj (.pointer (some ⟨lb, 0, none⟩)) R.ptr d k h) ∧ W1.heap[lb]? = some (nodeObj A.ptr (.pointer (some ⟨bb, 0, none⟩)) d' k' h') ∧ W1.heap[w.heap.size]? = some (nodeObj BI.ptr BO.ptr db kb hb) ∧ Kept Non w W1) := ⟨hT1, hL1, hN1', hK1'⟩
  clear hT1 hL1 hN1 hN1' hK1 hK1' t0 t1 t2 t3 t4 tf l0 l1 l2 l3 l4 lf p0 p1 p2 p3 p4 pf hcm hz1
  obtain ⟨l0, l1, l2, l3, l4, lf⟩ := L1
  simp only [World.size_drew]
  go_wp2_with fail
  refine (HR1.out _ ?_ ?_ ?_).mono ?_
  · rw [fA]; exact set_block (fA ▸ HX.out.2.1) 1 _
  · exact (set_other (fun e => n2 e.symm)).trans HX.out.2.2.1
  · exact (HX.out.2.2.2.mono (fun _ _ h => h.elim)).setCell _ _ (fun _ => .inr rfl)
  rintro e W3 ⟨rfl, s1, s2, s3⟩
  have hT3 : W3.heap[tb]? = some (nodeObj (.pointer (some ⟨lb, 0, none⟩)) R.ptr d k h) := (s3.block tb (by simp; exact Nat.lt_of_lt_of_le (block_lt HT.out) HX.out.2.2.2.size) (fun h => h.elim hne n1)).trans ((set_other hne).trans HX.out.1)
  have hK3 : Kept (Two tb lb) w W3 := ((HX.out.2.2.2.mono (fun _ _ h => h.elim)).setCell _ _ (fun _ => .inr rfl)).trans' s3 (fun i hi h => h.elim (fun e => by subst e; exact .inr rfl) (fun e => absurd hi (by omega)))
  have HY : Hid (W3.heap[tb]? = some (nodeObj (.pointer (some ⟨lb, 0, none⟩)) R.ptr d k h) ∧ W3.heap[lb]? = some (nodeObj A.ptr BI.ptr d' k' (1 + max (ht BI) (ht A))) ∧ W3.heap[w.heap.size]? = some (nodeObj (.pointer (some ⟨lb, 0, none⟩)) BO.ptr db kb (1 + max (1 + max (ht BI) (ht A)) (ht BO))) ∧ Kept (Two tb lb) w W3) := ⟨hT3, s1, s2, hK3⟩
  obtain ⟨t0, t1, t2, t3, t4, tf⟩ := nodeAt hT3
  clear hT3 s1 s2 s3 hK3
  go_wp2_with fail
  refine (HR2.out _ (1 + max (1 + max (ht BI) (ht A)) (ht BO)) ?_ ?_ ?_ ?_).mono ?_
  · exact set_block HY.out.1 0 _
  · exact (set_other (fun e => n1 e.symm)).trans HY.out.2.2.1
  · exact (set_other (fun e => hne e.symm)).trans HY.out.2.1
  · exact HY.out.2.2.2.setCell _ _ (fun _ => .inl rfl)
  rintro e W5 ⟨rfl, z1, z2, z3⟩
  have hL5 : W5.heap[lb]? = some (nodeObj A.ptr BI.ptr d' k' (1 + max (ht BI) (ht A))) := (z3.block lb (by simp; exact block_lt HY.out.2.1) (fun h => h.elim (fun e => hne e.symm) n2)).trans ((set_other (fun e => hne e.symm)).trans HY.out.2.1)
  have hK5 : Kept (Two tb lb) w W5 := (HY.out.2.2.2.setCell _ _ (fun _ => .inl rfl)).trans' z3 (fun i hi h => h.elim (fun e => by subst e; exact .inl rfl) (fun e => absurd hi (by omega)))
  go_wp2
  go_ret
  obtain ⟨iA, iBI, iBO, iR, nA, nI, nO, nR⟩ := HN.out
  obtain ⟨v1, v2, v3, v4, v5, v6, v7, v8, v9⟩ := HE.out
  have hd := HD.out
  have out : ∀ {X : Tr}, In w X → (¬ Blk tb X ∧ ¬ Blk lb X ∧ ¬ Blk w.heap.size X) → In W5 X := fun hx hn => hx.kept hK5 (fun b hb h => h.elim (fun e => hn.1 (e ▸ hb)) (fun e => hn.2.1 (e ▸ hb)))
  refine ⟨.node w.heap.size 0 (kb, db, 1 + max (1 + max (ht BO) (ht R)) (1 + max (ht BI) (ht A))) (.node lb 0 (k', d', 1 + max (ht BI) (ht A)) A BI) (.node tb 0 (k, d, 1 + max (ht BO) (ht R)) BO R), rfl, ?_, ?_, ?_, ?_, ?_, hK5, rfl, ?_⟩
  · exact ⟨rfl, z2, ⟨rfl, hL5, out iA nA, out iBI nI⟩, rfl, z1, out iBO nO, out iR nR⟩
  · simp [toL]
  · refine avl_mk ?_ ?_ ?_ (avl_mk ?_ ?_ ?_ v1 v2) (avl_mk ?_ ?_ ?_ v3 v4)
    all_goals (first | (simp only [ht_node]; omega) | rfl | omega)
  · exact ⟨hd.2.1.2.2.1, ⟨hd.2.1.1, hd.2.1.2.1, hd.2.1.2.2.2.1⟩, hd.1, hd.2.1.2.2.2.2, hd.2.2⟩
  · simp only [ht_node]; omega
  · intro b x hub hn
    simp only [HasNode] at hn ⊢
    by_cases hbb : bb = b
    · exfalso
      subst hbb
      rcases hq with rfl | ⟨p, c, t, rfl, hp, hpb⟩
      · cases hub
      · cases hub; exact hpb rfl
    · rcases hn with hn | (hn | hn | (hn | hn | hn)) | hn <;> first | exact absurd hn.1 hbb | simp [hn]


set_option maxRecDepth 100000 in
set_option maxHeartbeats 1000000 in
theorem aLeftIsHigh_own (w : World) (tb lb bb : Nat) (A BI BO R : Tr) (d d' db : Value) (k k' kb h h' hb : Int) (u : Option Addr) (hq : u = some ⟨bb, 0, none⟩)
    (hi : In w (.node tb 0 (k, d, h) (.node lb 0 (k', d', h') A (.node bb 0 (kb, db, hb) BI BO)) R)) (hs : Srt (toL (.node tb 0 (k, d, h) (.node lb 0 (k', d', h') A (.node bb 0 (kb, db, hb) BI BO)) R))) (hd : DataOk (.node tb 0 (k, d, h) (.node lb 0 (k', d', h') A (.node bb 0 (kb, db, hb) BI BO)) R))
    (hl : Avl (.node lb 0 (k', d', h') A (.node bb 0 (kb, db, hb) BI BO))) (hr : Avl R) (hh : h' = ht R + 2) (hbd : ht R ≤ 90) (hAB : ht A < hb) :
    Calls Try.prog 92 #[.pointer (some ⟨tb, 0, none⟩), .pointer u] w
      (HighPost w (.node tb 0 (k, d, h) (.node lb 0 (k', d', h') A (.node bb 0 (kb, db, hb) BI BO)) R) (fun b => b = tb ∨ b = lb ∨ b = bb) (ht R) (.pointer u) (One bb)) := by
  obtain ⟨k1, k2, k3, k4, k5, k6, k7, k8, k9, k10⟩ := aLeftIsHigh_keys hs
  have hT : w.heap[tb]? = some (nodeObj (.pointer (some ⟨lb, 0, none⟩)) R.ptr d k h) := hi.2.1
  have hL : w.heap[lb]? = some (nodeObj A.ptr (.pointer (some ⟨bb, 0, none⟩)) d' k' h') := hi.2.2.1.2.1
  have iA : In w A := hi.2.2.1.2.2.1
  have iB0 : In w (.node bb 0 (kb, db, hb) BI BO) := hi.2.2.1.2.2.2
  have iR : In w R := hi.2.2.2
  have hB : w.heap[bb]? = some (nodeObj BI.ptr BO.ptr db kb hb) := iB0.2.1
  have iBI : In w BI := iB0.2.2.1
  have iBO : In w BO := iB0.2.2.2
  have mb : (kb, db) ∈ toL (.node bb 0 (kb, db, hb) BI BO) := by rw [toL_node]; simp
  have sub1 : ∀ x ∈ toL BI, x ∈ toL (.node bb 0 (kb, db, hb) BI BO) := fun x hx => by rw [toL_node]; exact List.mem_append_left _ hx
  have sub2 : ∀ x ∈ toL BO, x ∈ toL (.node bb 0 (kb, db, hb) BI BO) := fun x hx => by rw [toL_node]; exact List.mem_append_right _ (List.mem_cons_of_mem _ hx)
  obtain ⟨b1, b2, b3, b4, b5⟩ := k8.parts
  obtain ⟨e1, e2, e3, e4, e5⟩ := hl
  have eA : Avl A := e4
  obtain ⟨q1, q2, q3, q4, q5⟩ := e5
  simp only [ht_node] at e1 e2 e3 q1
  have hA0 := Avl.ht_nonneg eA
  have hI0 := Avl.ht_nonneg q4
  have hO0 := Avl.ht_nonneg q5
  have hR0 := Avl.ht_nonneg hr
  have differ : ∀ {p q : Nat} {l1 r1 d1 l2 r2 d2 : Value} {x1 x2 h1 h2 : Int}, w.heap[p]? = some (nodeObj l1 r1 d1 x1 h1) → w.heap[q]? = some (nodeObj l2 r2 d2 x2 h2) → x1 ≠ x2 → p ≠ q := fun hp hq hx e => by
    subst e; rw [hp] at hq
    simp only [nodeObj, Option.some.injEq, Obj.cells.injEq, List.toArray_eq_iff, List.cons.injEq] at hq
    simp at hq
    exact hx hq.2.2.2.1
  have hne : tb ≠ lb := differ hT hL k7
  have kkb : k ≠ kb := fun e => k2 db (e ▸ mb)
  have kkb' : k' ≠ kb := fun e => k5 db (e ▸ mb)
  have n1 : tb ≠ bb := differ hT hB kkb
  have n2 : lb ≠ bb := differ hL hB kkb'
  have nA : ¬ Blk tb A ∧ ¬ Blk lb A ∧ ¬ Blk bb A := ⟨iA.not_blk hT k1, iA.not_blk hL k4, iA.not_blk hB (fun v hv => k9 _ _ _ mb hv)⟩
  have nR : ¬ Blk tb R ∧ ¬ Blk lb R ∧ ¬ Blk bb R := ⟨iR.not_blk hT k3, iR.not_blk hL k6, iR.not_blk hB (fun v hv => k10 _ _ _ mb hv)⟩
  have nI : ¬ Blk tb BI ∧ ¬ Blk lb BI ∧ ¬ Blk bb BI := ⟨iBI.not_blk hT (fun v hv => k2 v (sub1 _ hv)), iBI.not_blk hL (fun v hv => k5 v (sub1 _ hv)), iBI.not_blk hB (fun v hv => by have := b3 _ hv; simp at this)⟩
  have nO : ¬ Blk tb BO ∧ ¬ Blk lb BO ∧ ¬ Blk bb BO := ⟨iBO.not_blk hT (fun v hv => k2 v (sub2 _ hv)), iBO.not_blk hL (fun v hv => k5 v (sub2 _ hv)), iBO.not_blk hB (fun v hv => by have := b4 _ hv; simp at this)⟩

  subst hq
  have hcm : (binOp .neq 76 (.pointer (some ⟨bb, 0, none⟩)) (.pointer (some ⟨bb, 0, none⟩))).run Try.prog w.drew = .ok (.bool false) w.drew := by
    rw [run_neq_ptr (w := w.drew) hB hB]; simp
  obtain ⟨uA, fA⟩ := ptr_form A
  obtain ⟨uI, fI⟩ := ptr_form BI
  obtain ⟨uO, fO⟩ := ptr_form BO
  obtain ⟨t0, t1, t2, t3, t4, tf⟩ := nodeAt hT
  obtain ⟨l0, l1, l2, l3, l4, lf⟩ := nodeAt hL
  obtain ⟨p0, p1, p2, p3, p4, pf⟩ := nodeAt hB
  have cA := height_at w.drew A _ fA iA.drew
  have cB := height_some w.drew bb hb p4
  have dB : (∃ t v, db = .iface t v) ∨ db = .nilIface := hd.2.1.2.2.1
  have HC : Hid (Calls Try.prog 90 #[.pointer (some ⟨bb, 0, none⟩)] w.drew (CopyPost w.drew (nodeObj BI.ptr BO.ptr db kb hb))) := copy_abs w.drew bb _ _ db kb hb (ptr_form _) (ptr_form _) dB hB
  have stay : ∀ W : World, Kept (fun b => b = tb ∨ b = lb ∨ b = bb) w W → ∀ {X : Tr}, In w X → (¬ Blk tb X ∧ ¬ Blk lb X ∧ ¬ Blk bb X) → In W X := fun W hK X hx hn => hx.kept hK (fun b hb h => h.elim (fun e => hn.1 (e ▸ hb)) (fun h => h.elim (fun e => hn.2.1 (e ▸ hb)) (fun e => hn.2.2 (e ▸ hb))))
  have HR1 : Hid (∀ W : World, W.heap[lb]? = some (nodeObj A.ptr (.pointer (some ⟨bb, 0, none⟩)) d' k' h') → W.heap[bb]? = some (nodeObj BI.ptr BO.ptr db kb hb) → Kept (fun b => b = tb ∨ b = lb ∨ b = bb) w W → Calls Try.prog 99 #[.pointer (some ⟨lb, 0, none⟩)] W (RotPost W lb bb (nodeObj A.ptr BI.ptr d' k' (1 + max (ht BI) (ht A))) (nodeObj (.pointer (some ⟨lb, 0, none⟩)) BO.ptr db kb (1 + max (1 + max (ht BI) (ht A)) (ht BO))))) :=
    fun W h1 h2 hK => rightToRoot_any W lb bb A BI BO d' db k' kb h' hb h1 h2 n2 (stay W hK iA nA) (stay W hK iBI nI) (stay W hK iBO nO) nA.2 nI.2 nO.2 ⟨hA0, by omega⟩ ⟨hI0, by omega⟩ ⟨hO0, by omega⟩
  have HR2 : Hid (∀ (W : World) (H : Int), W.heap[tb]? = some (nodeObj (.pointer (some ⟨bb, 0, none⟩)) R.ptr d k h) → W.heap[bb]? = some (nodeObj (.pointer (some ⟨lb, 0, none⟩)) BO.ptr db kb H) → W.heap[lb]? = some (nodeObj A.ptr BI.ptr d' k' (1 + max (ht BI) (ht A))) → Kept (fun b => b = tb ∨ b = lb ∨ b = bb) w W → Calls Try.prog 100 #[.pointer (some ⟨tb, 0, none⟩)] W (RotPost W tb bb (nodeObj BO.ptr R.ptr d k (1 + max (ht BO) (ht R))) (nodeObj (.pointer (some ⟨lb, 0, none⟩)) (.pointer (some ⟨tb, 0, none⟩)) db kb (1 + max (1 + max (ht BO) (ht R)) (1 + max (ht BI) (ht A)))))) :=
    fun W H h1 h2 h3 hK => leftToRoot_any W tb bb R BO (.node lb 0 (k', d', 1 + max (ht BI) (ht A)) A BI) d db k kb h H h1 h2 n1 (stay W hK iR nR) (stay W hK iBO nO) ⟨rfl, h3, stay W hK iA nA, stay W hK iBI nI⟩ ⟨nR.1, nR.2.2⟩ ⟨nO.1, nO.2.2⟩ ⟨fun hb => Or.elim hb (fun e => hne e.symm) (fun h => Or.elim h nA.1 nI.1), fun hb => Or.elim hb n2 (fun h => Or.elim h nA.2.2 nI.2.2)⟩ ⟨hR0, by omega⟩ ⟨hO0, by omega⟩ ⟨by simp only [ht_node]; omega, by simp only [ht_node]; omega⟩
  have HN : Hid (In w A ∧ In w BI ∧ In w BO ∧ In w R ∧ (¬ Blk tb A ∧ ¬ Blk lb A ∧ ¬ Blk bb A) ∧ (¬ Blk tb BI ∧ ¬ Blk lb BI ∧ ¬ Blk bb BI) ∧ (¬ Blk tb BO ∧ ¬ Blk lb BO ∧ ¬ Blk bb BO) ∧ (¬ Blk tb R ∧ ¬ Blk lb R ∧ ¬ Blk bb R)) := ⟨iA, iBI, iBO, iR, nA, nI, nO, nR⟩
  have HD : Hid (DataOk (.node tb 0 (k, d, h) (.node lb 0 (k', d', h') A (.node bb 0 (kb, db, hb) BI BO)) R)) := hd
  have HE : Hid (Avl A ∧ Avl BI ∧ Avl BO ∧ Avl R ∧ ht A = ht R ∧ hb = ht R + 1 ∧ hb = 1 + max (ht BI) (ht BO) ∧ ht BI ≤ ht BO + 1 ∧ ht BO ≤ ht BI + 1) := ⟨eA, q4, q5, hr, by omega, by omega, by omega, by omega, by omega⟩
  have HT : Hid (w.heap[tb]? = some (nodeObj (.pointer (some ⟨lb, 0, none⟩)) R.ptr d k h)) := hT
  have HL : Hid (w.heap[lb]? = some (nodeObj A.ptr (.pointer (some ⟨bb, 0, none⟩)) d' k' h')) := hL
  have HB : Hid (w.heap[bb]? = some (nodeObj BI.ptr BO.ptr db kb hb)) := hB
  have hbnd : ht A ≤ 100 ∧ ht BI ≤ 100 ∧ ht BO ≤ 100 ∧ ht R ≤ 100 := by omega
  clear k1 k2 k3 k4 k5 k6 k7 k8 k9 k10 hs hd hi hT hL hB iA iB0 iBI iBO iR e1 e2 e3 e4 eA q1 q2 q3 q4 q5 b1 b2 b3 b4 b5 nA nR nI nO hr hh differ kkb kkb' mb sub1 sub2 dB
  go_enter Try.func92, Try.ntmps92
  go_wp2
  refine wp_region_still_lit (by kernel_rfl) (by kernel_rfl) ?_
  iterate 4 still_step
  still_call cA
  iterate 4 still_step
  still_call cB
  still_step
  refine wpStill_nil ?_
  clear cA cB
  go_wp2_with fail
  refine (HR1.out _ ?_ ?_ ?_).mono ?_
  · exact HL.out
  · exact HB.out
  · exact (Kept.refl _ _).drew
  rintro e W3 ⟨rfl, s1, s2, s3⟩
  have hT3 : W3.heap[tb]? = some (nodeObj (.pointer (some ⟨lb, 0, none⟩)) R.ptr d k h) := (s3.block tb (block_lt HT.out) (fun h => h.elim hne n1)).trans HT.out
  have hK3 : Kept (fun b => b = tb ∨ b = lb ∨ b = bb) w W3 := (Kept.refl _ _).drew.trans' s3 (fun i _ h => h.elim (fun e => by subst e; exact .inr (.inl rfl)) (fun e => by subst e; exact .inr (.inr rfl)))
  clear t0 t1 t2 t3 t4 tf l0 l1 l2 l3 l4 lf p0 p1 p2 p3 p4 pf hcm
  have HY : Hid (W3.heap[tb]? = some (nodeObj (.pointer (some ⟨lb, 0, none⟩)) R.ptr d k h) ∧ W3.heap[lb]? = some (nodeObj A.ptr BI.ptr d' k' (1 + max (ht BI) (ht A))) ∧ W3.heap[bb]? = some (nodeObj (.pointer (some ⟨lb, 0, none⟩)) BO.ptr db kb (1 + max (1 + max (ht BI) (ht A)) (ht BO))) ∧ Kept (fun b => b = tb ∨ b = lb ∨ b = bb) w W3) := ⟨hT3, s1, s2, hK3⟩
  obtain ⟨t0, t1, t2, t3, t4, tf⟩ := nodeAt hT3
  clear hT3 s1 s2 s3 hK3
  go_wp2_with fail
  refine (HR2.out _ (1 + max (1 + max (ht BI) (ht A)) (ht BO)) ?_ ?_ ?_ ?_).mono ?_
  · exact set_block HY.out.1 0 _
  · exact (set_other (fun e => n1 e.symm)).trans HY.out.2.2.1
  · exact (set_other (fun e => hne e.symm)).trans HY.out.2.1
  · exact HY.out.2.2.2.setCell _ _ (fun _ => .inl rfl)
  rintro e W5 ⟨rfl, z1, z2, z3⟩
  have hL5 : W5.heap[lb]? = some (nodeObj A.ptr BI.ptr d' k' (1 + max (ht BI) (ht A))) := (z3.block lb (by simp; exact block_lt HY.out.2.1) (fun h => h.elim (fun e => hne e.symm) n2)).trans ((set_other (fun e => hne e.symm)).trans HY.out.2.1)
  have hK5 : Kept (fun b => b = tb ∨ b = lb ∨ b = bb) w W5 := (HY.out.2.2.2.setCell _ _ (fun _ => .inl rfl)).trans' z3 (fun i hi h => h.elim (fun e => by subst e; exact .inl rfl) (fun e => by subst e; exact .inr (.inr rfl)))
  go_wp2
  go_ret
  obtain ⟨iA, iBI, iBO, iR, nA, nI, nO, nR⟩ := HN.out
  obtain ⟨v1, v2, v3, v4, v5, v6, v7, v8, v9⟩ := HE.out
  have hd := HD.out
  have out : ∀ {X : Tr}, In w X → (¬ Blk tb X ∧ ¬ Blk lb X ∧ ¬ Blk bb X) → In W5 X := fun hx hn => hx.kept hK5 (fun b hb h => h.elim (fun e => hn.1 (e ▸ hb)) (fun h => h.elim (fun e => hn.2.1 (e ▸ hb)) (fun e => hn.2.2 (e ▸ hb))))
  refine ⟨.node bb 0 (kb, db, 1 + max (1 + max (ht BO) (ht R)) (1 + max (ht BI) (ht A))) (.node lb 0 (k', d', 1 + max (ht BI) (ht A)) A BI) (.node tb 0 (k, d, 1 + max (ht BO) (ht R)) BO R), rfl, ?_, ?_, ?_, ?_, ?_, hK5, rfl, ?_⟩
  · exact ⟨rfl, z2, ⟨rfl, hL5, out iA nA, out iBI nI⟩, rfl, z1, out iBO nO, out iR nR⟩
  · simp [toL]
  · refine avl_mk ?_ ?_ ?_ (avl_mk ?_ ?_ ?_ v1 v2) (avl_mk ?_ ?_ ?_ v3 v4)
    all_goals (first | (simp only [ht_node]; omega) | rfl | omega)
  · exact ⟨hd.2.1.2.2.1, ⟨hd.2.1.1, hd.2.1.2.1, hd.2.1.2.2.2.1⟩, hd.1, hd.2.1.2.2.2.2, hd.2.2⟩
  · simp only [ht_node]; omega
  · intro b x hub hn
    simp only [HasNode] at hn ⊢
    rcases hn with hn | (hn | hn | (hn | hn | hn)) | hn <;> simp [hn]


set_option maxRecDepth 100000 in
set_option maxHeartbeats 1000000 in
theorem aRightIsHigh_copied (w : World) (tb lb bb : Nat) (A BI BO R : Tr) (d d' db : Value) (k k' kb h h' hb : Int) (u : Option Addr) (hq : u = none ∨ ∃ p c t, u = some ⟨p, 0, none⟩ ∧ w.heap[p]? = some (.cells c t (0, 0)) ∧ p ≠ bb)
    (hi : In w (.node tb 0 (k, d, h) R (.node lb 0 (k', d', h') (.node bb 0 (kb, db, hb) BO BI) A))) (hs : Srt (toL (.node tb 0 (k, d, h) R (.node lb 0 (k', d', h') (.node bb 0 (kb, db, hb) BO BI) A)))) (hd : DataOk (.node tb 0 (k, d, h) R (.node lb 0 (k', d', h') (.node bb 0 (kb, db, hb) BO BI) A)))
    (hl : Avl (.node lb 0 (k', d', h') (.node bb 0 (kb, db, hb) BO BI) A)) (hr : Avl R) (hh : h' = ht R + 2) (hbd : ht R ≤ 90) (hAB : ht A < hb) :
    Calls Try.prog 93 #[.pointer (some ⟨tb, 0, none⟩), .pointer u] w
      (HighPost w (.node tb 0 (k, d, h) R (.node lb 0 (k', d', h') (.node bb 0 (kb, db, hb) BO BI) A)) (Two tb lb) (ht R) (.pointer u) (One w.heap.size)) := by
  obtain ⟨k1, k2, k3, k4, k5, k6, k7, k8, k9, k10⟩ := aRightIsHigh_keys hs
  have hT : w.heap[tb]? = some (nodeObj R.ptr (.pointer (some ⟨lb, 0, none⟩)) d k h) := hi.2.1
  have hL : w.heap[lb]? = some (nodeObj (.pointer (some ⟨bb, 0, none⟩)) A.ptr d' k' h') := hi.2.2.2.2.1
  have iA : In w A := hi.2.2.2.2.2.2
  have iB0 : In w (.node bb 0 (kb, db, hb) BO BI) := hi.2.2.2.2.2.1
  have iR : In w R := hi.2.2.1
  have hB : w.heap[bb]? = some (nodeObj BO.ptr BI.ptr db kb hb) := iB0.2.1
  have iBI : In w BI := iB0.2.2.2
  have iBO : In w BO := iB0.2.2.1
  have mb : (kb, db) ∈ toL (.node bb 0 (kb, db, hb) BO BI) := by rw [toL_node]; simp
  have sub1 : ∀ x ∈ toL BI, x ∈ toL (.node bb 0 (kb, db, hb) BO BI) := fun x hx => by rw [toL_node]; exact List.mem_append_right _ (List.mem_cons_of_mem _ hx)
  have sub2 : ∀ x ∈ toL BO, x ∈ toL (.node bb 0 (kb, db, hb) BO BI) := fun x hx => by rw [toL_node]; exact List.mem_append_left _ hx
  obtain ⟨b1, b2, b3, b4, b5⟩ := k8.parts
  obtain ⟨e1, e2, e3, e4, e5⟩ := hl
  have eA : Avl A := e5
  obtain ⟨q1, q2, q3, q4, q5⟩ := e4
  simp only [ht_node] at e1 e2 e3 q1
  have hA0 := Avl.ht_nonneg eA
  have hI0 := Avl.ht_nonneg q5
  have hO0 := Avl.ht_nonneg q4
  have hR0 := Avl.ht_nonneg hr
  have differ : ∀ {p q : Nat} {l1 r1 d1 l2 r2 d2 : Value} {x1 x2 h1 h2 : Int}, w.heap[p]? = some (nodeObj l1 r1 d1 x1 h1) → w.heap[q]? = some (nodeObj l2 r2 d2 x2 h2) → x1 ≠ x2 → p ≠ q := fun hp hq hx e => by
    subst e; rw [hp] at hq
    simp only [nodeObj, Option.some.injEq, Obj.cells.injEq, List.toArray_eq_iff, List.cons.injEq] at hq
    simp at hq
    exact hx hq.2.2.2.1
  have hne : tb ≠ lb := differ hT hL k7
  have kkb : k ≠ kb := fun e => k2 db (e ▸ mb)
  have kkb' : k' ≠ kb := fun e => k5 db (e ▸ mb)
  have n1 : tb ≠ w.heap.size := Nat.ne_of_lt (block_lt hT)
  have n2 : lb ≠ w.heap.size := Nat.ne_of_lt (block_lt hL)
  have nA : ¬ Blk tb A ∧ ¬ Blk lb A ∧ ¬ Blk w.heap.size A := ⟨iA.not_blk hT k1, iA.not_blk hL k4, fun hb => Nat.lt_irrefl _ (iA.blk_lt hb)⟩
  have nR : ¬ Blk tb R ∧ ¬ Blk lb R ∧ ¬ Blk w.heap.size R := ⟨iR.not_blk hT k3, iR.not_blk hL k6, fun hb => Nat.lt_irrefl _ (iR.blk_lt hb)⟩
  have nI : ¬ Blk tb BI ∧ ¬ Blk lb BI ∧ ¬ Blk w.heap.size BI := ⟨iBI.not_blk hT (fun v hv => k2 v (sub1 _ hv)), iBI.not_blk hL (fun v hv => k5 v (sub1 _ hv)), fun hb => Nat.lt_irrefl _ (iBI.blk_lt hb)⟩
  have nO : ¬ Blk tb BO ∧ ¬ Blk lb BO ∧ ¬ Blk w.heap.size BO := ⟨iBO.not_blk hT (fun v hv => k2 v (sub2 _ hv)), iBO.not_blk hL (fun v hv => k5 v (sub2 _ hv)), fun hb => Nat.lt_irrefl _ (iBO.blk_lt hb)⟩

  have hcmp : ∀ W : World, Kept Non w W → (binOp .neq 76 (.pointer u) (.pointer (some ⟨bb, 0, none⟩))).run Try.prog W = .ok (.bool true) W := fun W hK => by
    rcases hq with rfl | ⟨p, c, t, rfl, hp, hpb⟩
    · exact run_neq_nil_ptr
    · rw [run_neq_ptr ((hK.block _ (block_lt hp) (fun h => h)).trans hp) ((hK.block _ (block_lt hB) (fun h => h)).trans hB)]; simp [hpb]
  have hcm := hcmp w.drew (Kept.refl _ _).drew
  clear hcmp
  obtain ⟨uA, fA⟩ := ptr_form A
  obtain ⟨uI, fI⟩ := ptr_form BI
  obtain ⟨uO, fO⟩ := ptr_form BO
  obtain ⟨t0, t1, t2, t3, t4, tf⟩ := nodeAt hT
  obtain ⟨l0, l1, l2, l3, l4, lf⟩ := nodeAt hL
  obtain ⟨p0, p1, p2, p3, p4, pf⟩ := nodeAt hB
  have cA := height_at w.drew A _ fA iA.drew
  have cB := height_some w.drew bb hb p4
  have dB : (∃ t v, db = .iface t v) ∨ db = .nilIface := hd.2.2.2.1.1
  have HC : Hid (Calls Try.prog 90 #[.pointer (some ⟨bb, 0, none⟩)] w.drew (CopyPost w.drew (nodeObj BO.ptr BI.ptr db kb hb))) := copy_abs w.drew bb _ _ db kb hb (ptr_form _) (ptr_form _) dB hB
  have stay : ∀ W : World, Kept (Two tb lb) w W → ∀ {X : Tr}, In w X → (¬ Blk tb X ∧ ¬ Blk lb X ∧ ¬ Blk w.heap.size X) → In W X := fun W hK X hx hn => hx.kept hK (fun b hb h => h.elim (fun e => hn.1 (e ▸ hb)) (fun e => hn.2.1 (e ▸ hb)))
  have HR1 : Hid (∀ W : World, W.heap[lb]? = some (nodeObj (.pointer (some ⟨w.heap.size, 0, none⟩)) A.ptr d' k' h') → W.heap[w.heap.size]? = some (nodeObj BO.ptr BI.ptr db kb hb) → Kept (Two tb lb) w W → Calls Try.prog 100 #[.pointer (some ⟨lb, 0, none⟩)] W (RotPost W lb w.heap.size (nodeObj BI.ptr A.ptr d' k' (1 + max (ht BI) (ht A))) (nodeObj BO.ptr (.pointer (some ⟨lb, 0, none⟩)) db kb (1 + max (1 + max (ht BI) (ht A)) (ht BO))))) :=
    fun W h1 h2 hK => leftToRoot_any W lb w.heap.size A BI BO d' db k' kb h' hb h1 h2 n2 (stay W hK iA nA) (stay W hK iBI nI) (stay W hK iBO nO) nA.2 nI.2 nO.2 ⟨hA0, by omega⟩ ⟨hI0, by omega⟩ ⟨hO0, by omega⟩
  have HR2 : Hid (∀ (W : World) (H : Int), W.heap[tb]? = some (nodeObj R.ptr (.pointer (some ⟨w.heap.size, 0, none⟩)) d k h) → W.heap[w.heap.size]? = some (nodeObj BO.ptr (.pointer (some ⟨lb, 0, none⟩)) db kb H) → W.heap[lb]? = some (nodeObj BI.ptr A.ptr d' k' (1 + max (ht BI) (ht A))) → Kept (Two tb lb) w W → Calls Try.prog 99 #[.pointer (some ⟨tb, 0, none⟩)] W (RotPost W tb w.heap.size (nodeObj R.ptr BO.ptr d k (1 + max (ht BO) (ht R))) (nodeObj (.pointer (some ⟨tb, 0, none⟩)) (.pointer (some ⟨lb, 0, none⟩)) db kb (1 + max (1 + max (ht BO) (ht R)) (1 + max (ht BI) (ht A)))))) :=
    fun W H h1 h2 h3 hK => rightToRoot_any W tb w.heap.size R BO (.node lb 0 (k', d', 1 + max (ht BI) (ht A)) BI A) d db k kb h H h1 h2 n1 (stay W hK iR nR) (stay W hK iBO nO) ⟨rfl, h3, stay W hK iBI nI, stay W hK iA nA⟩ ⟨nR.1, nR.2.2⟩ ⟨nO.1, nO.2.2⟩ ⟨fun hb => Or.elim hb (fun e => hne e.symm) (fun h => Or.elim h nI.1 nA.1), fun hb => Or.elim hb n2 (fun h => Or.elim h nI.2.2 nA.2.2)⟩ ⟨hR0, by omega⟩ ⟨hO0, by omega⟩ ⟨by simp only [ht_node]; omega, by simp only [ht_node]; omega⟩
  have HN : Hid (In w A ∧ In w BI ∧ In w BO ∧ In w R ∧ (¬ Blk tb A ∧ ¬ Blk lb A ∧ ¬ Blk w.heap.size A) ∧ (¬ Blk tb BI ∧ ¬ Blk lb BI ∧ ¬ Blk w.heap.size BI) ∧ (¬ Blk tb BO ∧ ¬ Blk lb BO ∧ ¬ Blk w.heap.size BO) ∧ (¬ Blk tb R ∧ ¬ Blk lb R ∧ ¬ Blk w.heap.size R)) := ⟨iA, iBI, iBO, iR, nA, nI, nO, nR⟩
  have HD : Hid (DataOk (.node tb 0 (k, d, h) R (.node lb 0 (k', d', h') (.node bb 0 (kb, db, hb) BO BI) A))) := hd
  have HE : Hid (Avl A ∧ Avl BI ∧ Avl BO ∧ Avl R ∧ ht A = ht R ∧ hb = ht R + 1 ∧ hb = 1 + max (ht BI) (ht BO) ∧ ht BI ≤ ht BO + 1 ∧ ht BO ≤ ht BI + 1) := ⟨eA, q5, q4, hr, by omega, by omega, by omega, by omega, by omega⟩
  have HT : Hid (w.heap[tb]? = some (nodeObj R.ptr (.pointer (some ⟨lb, 0, none⟩)) d k h)) := hT
  have HL : Hid (w.heap[lb]? = some (nodeObj (.pointer (some ⟨bb, 0, none⟩)) A.ptr d' k' h')) := hL
  have HB : Hid (w.heap[bb]? = some (nodeObj BO.ptr BI.ptr db kb hb)) := hB
  have hbnd : ht A ≤ 100 ∧ ht BI ≤ 100 ∧ ht BO ≤ 100 ∧ ht R ≤ 100 := by omega
  clear k1 k2 k3 k4 k5 k6 k7 k8 k9 k10 hs hd hi hT hL hB iA iB0 iBI iBO iR e1 e2 e3 e5 eA q1 q2 q3 q4 q5 b1 b2 b3 b4 b5 nA nR nI nO hr hh differ kkb kkb' mb sub1 sub2 dB
  go_enter Try.func93, Try.ntmps93
  go_wp2
  refine wp_region_still_lit (by kernel_rfl) (by kernel_rfl) ?_
  iterate 4 still_step
  still_call cA
  iterate 4 still_step
  still_call cB
  still_step
  refine wpStill_nil ?_
  clear cA cB
  go_wp2_with fail
  refine HC.out.mono ?_
  rintro e W1 ⟨rfl, hN1, hK1, hz1⟩
  have hK1' : Kept Non w W1 := (Kept.refl _ _).drew.trans hK1
  have hT1 : W1.heap[tb]? = _ := (hK1'.block _ (block_lt HT.out) (fun h => h)).trans HT.out
  have hL1 : W1.heap[lb]? = _ := (hK1'.block _ (block_lt HL.out) (fun h => h)).trans HL.out
  have hN1' : W1.heap[w.heap.size]? = some (nodeObj BO.ptr BI.ptr db kb hb) := hN1
  have L1 := nodeAt hL1
  have HX : Hid (W1.heap[tb]? = some (nodeObj R.ptr (.pointer (some ⟨lb, 0, none⟩)) d k h) ∧ W1.heap[lb]? = some (nodeObj (.pointer (some ⟨bb, 0, none⟩)) A.ptr d' k' h') ∧ W1.heap[w.heap.size]? = some (nodeObj BO.ptr BI.ptr db kb hb) ∧ Kept Non w W1) := ⟨hT1, hL1, hN1', hK1'⟩
  clear hT1 hL1 hN1 hN1' hK1 hK1' t0 t1 t2 t3 t4 tf l0 l1 l2 l3 l4 lf p0 p1 p2 p3 p4 pf hcm hz1
  obtain ⟨l0, l1, l2, l3, l4, lf⟩ := L1
  simp only [World.size_drew]
  go_wp2_with fail
  refine (HR1.out _ ?_ ?_ ?_).mono ?_
  · rw [fA]; exact set_block (fA ▸ HX.out.2.1) 0 _
  · exact (set_other (fun e => n2 e.symm)).trans HX.out.2.2.1
  · exact (HX.out.2.2.2.mono (fun _ _ h => h.elim)).setCell _ _ (fun _ => .inr rfl)
  rintro e W3 ⟨rfl, s1, s2, s3⟩
  have hT3 : W3.heap[tb]? = some (nodeObj R.ptr (.pointer (some ⟨lb, 0, none⟩)) d k h) := (s3.block tb (by simp; exact Nat.lt_of_lt_of_le (block_lt HT.out) HX.out.2.2.2.size) (fun h => h.elim hne n1)).trans ((set_other hne).trans HX.out.1)
  have hK3 : Kept (Two tb lb) w W3 := ((HX.out.2.2.2.mono (fun _ _ h => h.elim)).setCell _ _ (fun _ => .inr rfl)).trans' s3 (fun i hi h => h.elim (fun e => by subst e; exact .inr rfl) (fun e => absurd hi (by omega)))
  have HY : Hid (W3.heap[tb]? = some (nodeObj R.ptr (.pointer (some ⟨lb, 0, none⟩)) d k h) ∧ W3.heap[lb]? = some (nodeObj BI.ptr A.ptr d' k' (1 + max (ht BI) (ht A))) ∧ W3.heap[w.heap.size]? = some (nodeObj BO.ptr (.pointer (some ⟨lb, 0, none⟩)) db kb (1 + max (1 + max (ht BI) (ht A)) (ht BO))) ∧ Kept (Two tb lb) w W3) := ⟨hT3, s1, s2, hK3⟩
  obtain ⟨t0, t1, t2, t3, t4, tf⟩ := nodeAt hT3
  clear hT3 s1 s2 s3 hK3
  go_wp2_with fail
  refine (HR2.out _ (1 + max (1 + max (ht BI) (ht A)) (ht BO)) ?_ ?_ ?_ ?_).mono ?_
  · exact set_block HY.out.1 1 _
  · exact (set_other (fun e => n1 e.symm)).trans HY.out.2.2.1
  · exact (set_other (fun e => hne e.symm)).trans HY.out.2.1
  · exact HY.out.2.2.2.setCell _ _ (fun _ => .inl rfl)
  rintro e W5 ⟨rfl, z1, z2, z3⟩
  have hL5 : W5.heap[lb]? = some (nodeObj BI.ptr A.ptr d' k' (1 + max (ht BI) (ht A))) := (z3.block lb (by simp; exact block_lt HY.out.2.1) (fun h => h.elim (fun e => hne e.symm) n2)).trans ((set_other (fun e => hne e.symm)).trans HY.out.2.1)
  have hK5 : Kept (Two tb lb) w W5 := (HY.out.2.2.2.setCell _ _ (fun _ => .inl rfl)).trans' z3 (fun i hi h => h.elim (fun e => by subst e; exact .inl rfl) (fun e => absurd hi (by omega)))
  go_wp2
  go_ret
  obtain ⟨iA, iBI, iBO, iR, nA, nI, nO, nR⟩ := HN.out
  obtain ⟨v1, v2, v3, v4, v5, v6, v7, v8, v9⟩ := HE.out
  have hd := HD.out
  have out : ∀ {X : Tr}, In w X → (¬ Blk tb X ∧ ¬ Blk lb X ∧ ¬ Blk w.heap.size X) → In W5 X := fun hx hn => hx.kept hK5 (fun b hb h => h.elim (fun e => hn.1 (e ▸ hb)) (fun e => hn.2.1 (e ▸ hb)))
  refine ⟨.node w.heap.size 0 (kb, db, 1 + max (1 + max (ht BO) (ht R)) (1 + max (ht BI) (ht A))) (.node tb 0 (k, d, 1 + max (ht BO) (ht R)) R BO) (.node lb 0 (k', d', 1 + max (ht BI) (ht A)) BI A), rfl, ?_, ?_, ?_, ?_, ?_, hK5, rfl, ?_⟩
  · exact ⟨rfl, z2, ⟨rfl, z1, out iR nR, out iBO nO⟩, rfl, hL5, out iBI nI, out iA nA⟩
  · simp [toL]
  · refine avl_mk ?_ ?_ ?_ (avl_mk ?_ ?_ ?_ v4 v3) (avl_mk ?_ ?_ ?_ v2 v1)
    all_goals (first | (simp only [ht_node]; omega) | rfl | omega)
  · exact ⟨hd.2.2.2.1.1, ⟨hd.1, hd.2.1, hd.2.2.2.1.2.1⟩, hd.2.2.1, hd.2.2.2.1.2.2, hd.2.2.2.2⟩
  · simp only [ht_node]; omega
  · intro b x hub hn
    simp only [HasNode] at hn ⊢
    by_cases hbb : bb = b
    · exfalso
      subst hbb
      rcases hq with rfl | ⟨p, c, t, rfl, hp, hpb⟩
      · cases hub
      · cases hub; exact hpb rfl
    · rcases hn with hn | hn | (hn | ((hn | hn | hn) | hn)) <;> first | exact absurd hn.1 hbb | simp [hn]


set_option maxRecDepth 100000 in
set_option maxHeartbeats 1000000 in
theorem aRightIsHigh_own (w : World) (tb lb bb : Nat) (A BI BO R : Tr) (d d' db : Value) (k k' kb h h' hb : Int) (u : Option Addr) (hq : u = some ⟨bb, 0, none⟩)
    (hi : In w (.node tb 0 (k, d, h) R (.node lb 0 (k', d', h') (.node bb 0 (kb, db, hb) BO BI) A))) (hs : Srt (toL (.node tb 0 (k, d, h) R (.node lb 0 (k', d', h') (.node bb 0 (kb, db, hb) BO BI) A)))) (hd : DataOk (.node tb 0 (k, d, h) R (.node lb 0 (k', d', h') (.node bb 0 (kb, db, hb) BO BI) A)))
    (hl : Avl (.node lb 0 (k', d', h') (.node bb 0 (kb, db, hb) BO BI) A)) (hr : Avl R) (hh : h' = ht R + 2) (hbd : ht R ≤ 90) (hAB : ht A < hb) :
    Calls Try.prog 93 #[.pointer (some ⟨tb, 0, none⟩), .pointer u] w
      (HighPost w (.node tb 0 (k, d, h) R (.node lb 0 (k', d', h') (.node bb 0 (kb, db, hb) BO BI) A)) (fun b => b = tb ∨ b = lb ∨ b = bb) (ht R) (.pointer u) (One bb)) := by
  obtain ⟨k1, k2, k3, k4, k5, k6, k7, k8, k9, k10⟩ := aRightIsHigh_keys hs
  have hT : w.heap[tb]? = some (nodeObj R.ptr (.pointer (some ⟨lb, 0, none⟩)) d k h) := hi.2.1
  have hL : w.heap[lb]? = some (nodeObj (.pointer (some ⟨bb, 0, none⟩)) A.ptr d' k' h') := hi.2.2.2.2.1
  have iA : In w A := hi.2.2.2.2.2.2
  have iB0 : In w (.node bb 0 (kb, db, hb) BO BI) := hi.2.2.2.2.2.1
  have iR : In w R := hi.2.2.1
  have hB : w.heap[bb]? = some (nodeObj BO.ptr BI.ptr db kb hb) := iB0.2.1
  have iBI : In w BI := iB0.2.2.2
  have iBO : In w BO := iB0.2.2.1
  have mb : (kb, db) ∈ toL (.node bb 0 (kb, db, hb) BO BI) := by rw [toL_node]; simp
  have sub1 : ∀ x ∈ toL BI, x ∈ toL (.node bb 0 (kb, db, hb) BO BI) := fun x hx => by rw [toL_node]; exact List.mem_append_right _ (List.mem_cons_of_mem _ hx)
  have sub2 : ∀ x ∈ toL BO, x ∈ toL (.node bb 0 (kb, db, hb) BO BI) := fun x hx => by rw [toL_node]; exact List.mem_append_left _ hx
  obtain ⟨b1, b2, b3, b4, b5⟩ := k8.parts
  obtain ⟨e1, e2, e3, e4, e5⟩ := hl
  have eA : Avl A := e5
  obtain ⟨q1, q2, q3, q4, q5⟩ := e4
  simp only [ht_node] at e1 e2 e3 q1
  have hA0 := Avl.ht_nonneg eA
  have hI0 := Avl.ht_nonneg q5
  have hO0 := Avl.ht_nonneg q4
  have hR0 := Avl.ht_nonneg hr
  have differ : ∀ {p q : Nat} {l1 r1 d1 l2 r2 d2 : Value} {x1 x2 h1 h2 : Int}, w.heap[p]? = some (nodeObj l1 r1 d1 x1 h1) → w.heap[q]? = some (nodeObj l2 r2 d2 x2 h2) → x1 ≠ x2 → p ≠ q := fun hp hq hx e => by
    subst e; rw [hp] at hq
    simp only [nodeObj, Option.some.injEq, Obj.cells.injEq, List.toArray_eq_iff, List.cons.injEq] at hq
    simp at hq
    exact hx hq.2.2.2.1
  have hne : tb ≠ lb := differ hT hL k7
  have kkb : k ≠ kb := fun e => k2 db (e ▸ mb)
  have kkb' : k' ≠ kb := fun e => k5 db (e ▸ mb)
  have n1 : tb ≠ bb := differ hT hB kkb
  have n2 : lb ≠ bb := differ hL hB kkb'
  have nA : ¬ Blk tb A ∧ ¬ Blk lb A ∧ ¬ Blk bb A := ⟨iA.not_blk hT k1, iA.not_blk hL k4, iA.not_blk hB (fun v hv => k9 _ _ _ mb hv)⟩
  have nR : ¬ Blk tb R ∧ ¬ Blk lb R ∧ ¬ Blk bb R := ⟨iR.not_blk hT k3, iR.not_blk hL k6, iR.not_blk hB (fun v hv => k10 _ _ _ mb hv)⟩
  have nI : ¬ Blk tb BI ∧ ¬ Blk lb BI ∧ ¬ Blk bb BI := ⟨iBI.not_blk hT (fun v hv => k2 v (sub1 _ hv)), iBI.not_blk hL (fun v hv => k5 v (sub1 _ hv)), iBI.not_blk hB (fun v hv => by have := b4 _ hv; simp at this)⟩
  have nO : ¬ Blk tb BO ∧ ¬ Blk lb BO ∧ ¬ Blk bb BO := ⟨iBO.not_blk hT (fun v hv => k2 v (sub2 _ hv)), iBO.not_blk hL (fun v hv => k5 v (sub2 _ hv)), iBO.not_blk hB (fun v hv => by have := b3 _ hv; simp at this)⟩

  subst hq
  have hcm : (binOp .neq 76 (.pointer (some ⟨bb, 0, none⟩)) (.pointer (some ⟨bb, 0, none⟩))).run Try.prog w.drew = .ok (.bool false) w.drew := by
    rw [run_neq_ptr (w := w.drew) hB hB]; simp
  obtain ⟨uA, fA⟩ := ptr_form A
  obtain ⟨uI, fI⟩ := ptr_form BI
  obtain ⟨uO, fO⟩ := ptr_form BO
  obtain ⟨t0, t1, t2, t3, t4, tf⟩ := nodeAt hT
  obtain ⟨l0, l1, l2, l3, l4, lf⟩ := nodeAt hL
  obtain ⟨p0, p1, p2, p3, p4, pf⟩ := nodeAt hB
  have cA := height_at w.drew A _ fA iA.drew
  have cB := height_some w.drew bb hb p4
  have dB : (∃ t v, db = .iface t v) ∨ db = .nilIface := hd.2.2.2.1.1
  have HC : Hid (Calls Try.prog 90 #[.pointer (some ⟨bb, 0, none⟩)] w.drew (CopyPost w.drew (nodeObj BO.ptr BI.ptr db kb hb))) := copy_abs w.drew bb _ _ db kb hb (ptr_form _) (ptr_form _) dB hB
  have stay : ∀ W : World, Kept (fun b => b = tb ∨ b = lb ∨ b = bb) w W → ∀ {X : Tr}, In w X → (¬ Blk tb X ∧ ¬ Blk lb X ∧ ¬ Blk bb X) → In W X := fun W hK X hx hn => hx.kept hK (fun b hb h => h.elim (fun e => hn.1 (e ▸ hb)) (fun h => h.elim (fun e => hn.2.1 (e ▸ hb)) (fun e => hn.2.2 (e ▸ hb))))
  have HR1 : Hid (∀ W : World, W.heap[lb]? = some (nodeObj (.pointer (some ⟨bb, 0, none⟩)) A.ptr d' k' h') → W.heap[bb]? = some (nodeObj BO.ptr BI.ptr db kb hb) → Kept (fun b => b = tb ∨ b = lb ∨ b = bb) w W → Calls Try.prog 100 #[.pointer (some ⟨lb, 0, none⟩)] W (RotPost W lb bb (nodeObj BI.ptr A.ptr d' k' (1 + max (ht BI) (ht A))) (nodeObj BO.ptr (.pointer (some ⟨lb, 0, none⟩)) db kb (1 + max (1 + max (ht BI) (ht A)) (ht BO))))) :=
    fun W h1 h2 hK => leftToRoot_any W lb bb A BI BO d' db k' kb h' hb h1 h2 n2 (stay W hK iA nA) (stay W hK iBI nI) (stay W hK iBO nO) nA.2 nI.2 nO.2 ⟨hA0, by omega⟩ ⟨hI0, by omega⟩ ⟨hO0, by omega⟩
  have HR2 : Hid (∀ (W : World) (H : Int), W.heap[tb]? = some (nodeObj R.ptr (.pointer (some ⟨bb, 0, none⟩)) d k h) → W.heap[bb]? = some (nodeObj BO.ptr (.pointer (some ⟨lb, 0, none⟩)) db kb H) → W.heap[lb]? = some (nodeObj BI.ptr A.ptr d' k' (1 + max (ht BI) (ht A))) → Kept (fun b => b = tb ∨ b = lb ∨ b = bb) w W → Calls Try.prog 99 #[.pointer (some ⟨tb, 0, none⟩)] W (RotPost W tb bb (nodeObj R.ptr BO.ptr d k (1 + max (ht BO) (ht R))) (nodeObj (.pointer (some ⟨tb, 0, none⟩)) (.pointer (some ⟨lb, 0, none⟩)) db kb (1 + max (1 + max (ht BO) (ht R)) (1 + max (ht BI) (ht A)))))) :=
    fun W H h1 h2 h3 hK => rightToRoot_any W tb bb R BO (.node lb 0 (k', d', 1 + max (ht BI) (ht A)) BI A) d db k kb h H h1 h2 n1 (stay W hK iR nR) (stay W hK iBO nO) ⟨rfl, h3, stay W hK iBI nI, stay W hK iA nA⟩ ⟨nR.1, nR.2.2⟩ ⟨nO.1, nO.2.2⟩ ⟨fun hb => Or.elim hb (fun e => hne e.symm) (fun h => Or.elim h nI.1 nA.1), fun hb => Or.elim hb n2 (fun h => Or.elim h nI.2.2 nA.2.2)⟩ ⟨hR0, by omega⟩ ⟨hO0, by omega⟩ ⟨by simp only [ht_node]; omega, by simp only [ht_node]; omega⟩
  have HN : Hid (In w A ∧ In w BI ∧ In w BO ∧ In w R ∧ (¬ Blk tb A ∧ ¬ Blk lb A ∧ ¬ Blk bb A) ∧ (¬ Blk tb BI ∧ ¬ Blk lb BI ∧ ¬ Blk bb BI) ∧ (¬ Blk tb BO ∧ ¬ Blk lb BO ∧ ¬ Blk bb BO) ∧ (¬ Blk tb R ∧ ¬ Blk lb R ∧ ¬ Blk bb R)) := ⟨iA, iBI, iBO, iR, nA, nI, nO, nR⟩
  have HD : Hid (DataOk (.node tb 0 (k, d, h) R (.node lb 0 (k', d', h') (.node bb 0 (kb, db, hb) BO BI) A))) := hd
  have HE : Hid (Avl A ∧ Avl BI ∧ Avl BO ∧ Avl R ∧ ht A = ht R ∧ hb = ht R + 1 ∧ hb = 1 + max (ht BI) (ht BO) ∧ ht BI ≤ ht BO + 1 ∧ ht BO ≤ ht BI + 1) := ⟨eA, q5, q4, hr, by omega, by omega, by omega, by omega, by omega⟩
  have HT : Hid (w.heap[tb]? = some (nodeObj R.ptr (.pointer (some ⟨lb, 0, none⟩)) d k h)) := hT
  have HL : Hid (w.heap[lb]? = some (nodeObj (.pointer (some ⟨bb, 0, none⟩)) A.ptr d' k' h')) := hL
  have HB : Hid (w.heap[bb]? = some (nodeObj BO.ptr BI.ptr db kb hb)) := hB
  have hbnd : ht A ≤ 100 ∧ ht BI ≤ 100 ∧ ht BO ≤ 100 ∧ ht R ≤ 100 := by omega
  clear k1 k2 k3 k4 k5 k6 k7 k8 k9 k10 hs hd hi hT hL hB iA iB0 iBI iBO iR e1 e2 e3 e5 eA q1 q2 q3 q4 q5 b1 b2 b3 b4 b5 nA nR nI nO hr hh differ kkb kkb' mb sub1 sub2 dB
  go_enter Try.func93, Try.ntmps93
  go_wp2
  refine wp_region_still_lit (by kernel_rfl) (by kernel_rfl) ?_
  iterate 4 still_step
  still_call cA
  iterate 4 still_step
  still_call cB
  still_step
  refine wpStill_nil ?_
  clear cA cB
  go_wp2_with fail
  refine (HR1.out _ ?_ ?_ ?_).mono ?_
  · exact HL.out
  · exact HB.out
  · exact (Kept.refl _ _).drew
  rintro e W3 ⟨rfl, s1, s2, s3⟩
  have hT3 : W3.heap[tb]? = some (nodeObj R.ptr (.pointer (some ⟨lb, 0, none⟩)) d k h) := (s3.block tb (block_lt HT.out) (fun h => h.elim hne n1)).trans HT.out
  have hK3 : Kept (fun b => b = tb ∨ b = lb ∨ b = bb) w W3 := (Kept.refl _ _).drew.trans' s3 (fun i _ h => h.elim (fun e => by subst e; exact .inr (.inl rfl)) (fun e => by subst e; exact .inr (.inr rfl)))
  clear t0 t1 t2 t3 t4 tf l0 l1 l2 l3 l4 lf p0 p1 p2 p3 p4 pf hcm
  have HY : Hid (W3.heap[tb]? = some (nodeObj R.ptr (.pointer (some ⟨lb, 0, none⟩)) d k h) ∧ W3.heap[lb]? = some (nodeObj BI.ptr A.ptr d' k' (1 + max (ht BI) (ht A))) ∧ W3.heap[bb]? = some (nodeObj BO.ptr (.pointer (some ⟨lb, 0, none⟩)) db kb (1 + max (1 + max (ht BI) (ht A)) (ht BO))) ∧ Kept (fun b => b = tb ∨ b = lb ∨ b = bb) w W3) := ⟨hT3, s1, s2, hK3⟩
  obtain ⟨t0, t1, t2, t3, t4, tf⟩ := nodeAt hT3
  clear hT3 s1 s2 s3 hK3
  go_wp2_with fail
  refine (HR2.out _ (1 + max (1 + max (ht BI) (ht A)) (ht BO)) ?_ ?_ ?_ ?_).mono ?_
  · exact set_block HY.out.1 1 _
  · exact (set_other (fun e => n1 e.symm)).trans HY.out.2.2.1
  · exact (set_other (fun e => hne e.symm)).trans HY.out.2.1
  · exact HY.out.2.2.2.setCell _ _ (fun _ => .inl rfl)
  rintro e W5 ⟨rfl, z1, z2, z3⟩
  have hL5 : W5.heap[lb]? = some (nodeObj BI.ptr A.ptr d' k' (1 + max (ht BI) (ht A))) := (z3.block lb (by simp; exact block_lt HY.out.2.1) (fun h => h.elim (fun e => hne e.symm) n2)).trans ((set_other (fun e => hne e.symm)).trans HY.out.2.1)
  have hK5 : Kept (fun b => b = tb ∨ b = lb ∨ b = bb) w W5 := (HY.out.2.2.2.setCell _ _ (fun _ => .inl rfl)).trans' z3 (fun i hi h => h.elim (fun e => by subst e; exact .inl rfl) (fun e => by subst e; exact .inr (.inr rfl)))
  go_wp2
  go_ret
  obtain ⟨iA, iBI, iBO, iR, nA, nI, nO, nR⟩ := HN.out
  obtain ⟨v1, v2, v3, v4, v5, v6, v7, v8, v9⟩ := HE.out
  have hd := HD.out
  have out : ∀ {X : Tr}, In w X → (¬ Blk tb X ∧ ¬ Blk lb X ∧ ¬ Blk bb X) → In W5 X := fun hx hn => hx.kept hK5 (fun b hb h => h.elim (fun e => hn.1 (e ▸ hb)) (fun h => h.elim (fun e => hn.2.1 (e ▸ hb)) (fun e => hn.2.2 (e ▸ hb))))
  refine ⟨.node bb 0 (kb, db, 1 + max (1 + max (ht BO) (ht R)) (1 + max (ht BI) (ht A))) (.node tb 0 (k, d, 1 + max (ht BO) (ht R)) R BO) (.node lb 0 (k', d', 1 + max (ht BI) (ht A)) BI A), rfl, ?_, ?_, ?_, ?_, ?_, hK5, rfl, ?_⟩
  · exact ⟨rfl, z2, ⟨rfl, z1, out iR nR, out iBO nO⟩, rfl, hL5, out iBI nI, out iA nA⟩
  · simp [toL]
  · refine avl_mk ?_ ?_ ?_ (avl_mk ?_ ?_ ?_ v4 v3) (avl_mk ?_ ?_ ?_ v2 v1)
    all_goals (first | (simp only [ht_node]; omega) | rfl | omega)
  · exact ⟨hd.2.2.2.1.1, ⟨hd.1, hd.2.1, hd.2.2.2.1.2.1⟩, hd.2.2.1, hd.2.2.2.1.2.2, hd.2.2.2.2⟩
  · simp only [ht_node]; omega
  · intro b x hub hn
    simp only [HasNode] at hn ⊢
    rcases hn with hn | hn | (hn | ((hn | hn | hn) | hn)) <;> simp [hn]

end Go.Proofs.Ytehegllgaiehfaa
