/- Histories: what they are, and the state of the loops that make them. -/
import Derived.Test.YtehegllgaiehfaaUpd
namespace Go.Proofs.Ytehegllgaiehfaa
open Go.RowKit

/-- what has been told where nothing is told -/
def fd0 : Fd := (0, 0, false)
/-- the next version of a history, and what is told -/
def stepH (vs : List Ps) (a : Ac) : Ps × Fd :=
  if bits .and .i64 a.kind 7 = 4 then (unionS (mixV a.mix) (vs.getD (idx a.of vs.length) []) (vs.getD (idx a.wit vs.length) []), fd0)
  else if bits .and .i64 a.kind 7 = 5 then (interS (mixV a.mix) (vs.getD (idx a.of vs.length) []) (vs.getD (idx a.wit vs.length) []), fd0)
  else if bits .and .i64 a.kind 7 = 6 then (diffS ((opOf a.mix).getD fun _ _ => none) (vs.getD (idx a.of vs.length) []) (vs.getD (idx a.wit vs.length) []), fd0)
  else if bits .and .i64 a.kind 7 = 7 then (vs.getD (idx a.of vs.length) [], fd0)
  else upd (vs.getD (idx a.of vs.length) []) a
def hist (ax : List Ac) : List Ps × List Fd := ax.foldl (fun s a => (s.1 ++ [(stepH s.1 a).1], s.2 ++ [(stepH s.1 a).2])) ([[]], [])
theorem hist_take (ax : List Ac) (k : Nat) (h : k < ax.length) : hist (ax.take (k + 1)) = ((hist (ax.take k)).1 ++ [(stepH (hist (ax.take k)).1 ax[k]).1], (hist (ax.take k)).2 ++ [(stepH (hist (ax.take k)).1 ax[k]).2]) := by
  rw [List.take_succ_eq_append_getElem h, hist, List.foldl_append]; rfl
theorem hist_len (ax : List Ac) : ∀ k, k ≤ ax.length → (hist (ax.take k)).1.length = k + 1 ∧ (hist (ax.take k)).2.length = k
  | 0, _ => by simp [hist]
  | k + 1, h => by
    have ih := hist_len ax k (by omega)
    rw [hist_take ax k (by omega)]
    simp [ih.1, ih.2]
/-- the keys are numbers of 32 bits -/
def ActsW (ax : List Ac) : Prop := ∀ a ∈ ax, -2147483648 ≤ a.key ∧ a.key ≤ 2147483647
def GoodV (xs : Ps) : Prop := Up xs ∧ KeysW xs
theorem GoodV.nil : GoodV [] := ⟨Up.nil, KeysW.nil⟩
theorem GoodV.len {xs : Ps} (h : GoodV xs) : xs.length ≤ 4294967296 := up_len h.1 h.2
theorem GoodV.getD {vs : List Ps} (h : ∀ v ∈ vs, GoodV v) (i : Nat) : GoodV (vs.getD i []) := by
  rw [List.getD_eq_getElem?_getD]
  cases hi : vs[i]? with
  | none => exact GoodV.nil
  | some v => exact h v (List.mem_of_getElem? hi)
theorem KeysW.put {xs : Ps} (h : KeysW xs) {x d : Int} (hx : -2147483648 ≤ x ∧ x ≤ 2147483647) : KeysW (put x d xs) := fun a ha => by
  rcases put_mem ha with rfl | ha
  · exact hx
  · exact h a ha
theorem KeysW.unionS {xs ys : Ps} (hx : KeysW xs) (hy : KeysW ys) (op : Fun2) : KeysW (unionS op xs ys) := by
  rw [unionS_putAll]
  exact putAll_wide (hx.fmap _) (putAll_wide (hy.sub List.filter_sublist) (putAll_wide (hx.sub List.filter_sublist) KeysW.nil))
theorem GoodV.upd {xs : Ps} (h : GoodV xs) {a : Ac} (ha : -2147483648 ≤ a.key ∧ a.key ≤ 2147483647) : GoodV (upd xs a).1 := by
  unfold Go.Proofs.Ytehegllgaiehfaa.upd
  split
  · exact ⟨h.1.put _ _, h.2.put ha⟩
  · split
    · exact ⟨h.1.drop _, h.2.sub List.filter_sublist⟩
    · split
      · exact ⟨h.1.drop _, h.2.sub List.filter_sublist⟩
      · exact ⟨h.1.drop _, h.2.sub List.filter_sublist⟩
theorem GoodV.step {vs : List Ps} (h : ∀ v ∈ vs, GoodV v) {a : Ac} (ha : -2147483648 ≤ a.key ∧ a.key ≤ 2147483647) : GoodV (stepH vs a).1 := by
  have h1 := GoodV.getD h (idx a.of vs.length)
  have h2 := GoodV.getD h (idx a.wit vs.length)
  unfold stepH
  split
  · exact ⟨up_treeP _, h1.2.unionS h2.2 _⟩
  · split
    · exact ⟨h1.1.interS _ _, h1.2.fmap _⟩
    · split
      · exact ⟨h1.1.diffS _ _, h1.2.fmap _⟩
      · split
        · exact h1
        · exact h1.upd ha
theorem hist_good {ax : List Ac} (h : ActsW ax) : ∀ k, k ≤ ax.length → ∀ v ∈ (hist (ax.take k)).1, GoodV v
  | 0, _ => fun v hv => by simp [hist] at hv; subst hv; exact GoodV.nil
  | k + 1, hk => fun v hv => by
    rw [hist_take ax k (by omega)] at hv
    rcases List.mem_append.1 hv with hv | hv
    · exact hist_good h k (by omega) v hv
    · simp at hv; subst hv
      exact GoodV.step (hist_good h k (by omega)) (h _ (List.getElem_mem _))

/-- a slice's header -/
abbrev Sh := Option Addr × Nat × Nat
def shv (s : Sh) : Value := .slice s.1 s.2.1 s.2.2
def shc (s : Sh) : List Value := [shv s]
theorem shc_enc (s : Sh) : (shc s).length = 1 ∧ ∀ u ∈ shc s, u.oneCell' = true := ⟨rfl, fun u hu => by simp [shc] at hu; subst hu; rfl⟩
def ptc (b : Nat) : List Value := [.pointer (some ⟨b, 0, none⟩)]
theorem ptc_enc (b : Nat) : (ptc b).length = 1 ∧ ∀ u ∈ ptc b, u.oneCell' = true := ⟨rfl, fun u hu => by simp [ptc] at hu; subst hu; rfl⟩
theorem tyV : ElTy 40 22 1 24 := elTy_of (z := .slice none 0 0) (by kernel_rfl) (by kernel_rfl) rfl (by decide)
theorem tyT : ElTy 71 55 1 8 := elTy_of (z := .pointer none) (by kernel_rfl) (by kernel_rfl) rfl (by decide)

/-- types of blocks that hold neither pairs nor trees -/
def Free (ty : Nat) : Prop := ty ≠ 27 ∧ ty ≠ 104 ∧ ty ≠ 78
def FreeS (W : World) (S : Nat → Prop) : Prop := ∀ b, S b → ∃ cur ty z, W.heap[b]? = some (.cells cur ty z) ∧ Free ty
theorem Own.typ {α : Type} {sz : Nat} {enc : α → List Value} {E base : Nat} {w : World} {v : Value} {xs : List α} (h : Own sz enc E base w v xs) {b : Nat} (hb : OwnS v b) : ∃ cur, w.heap[b]? = some (.cells cur E (0, 0)) := by
  obtain ⟨_, h2⟩ := h.own
  rcases h2 with ⟨hv, _⟩ | ⟨g, cap, cur, hv, hg, hc, _⟩
  · subst hv; simp [OwnS, Value.ownBlock] at hb
  · subst hv
    simp [OwnS, Value.ownBlock] at hb
    subst hb
    exact ⟨cur, hc⟩
theorem Own.free {α : Type} {sz : Nat} {enc : α → List Value} {E base : Nat} {w : World} {v : Value} {xs : List α} (h : Own sz enc E base w v xs) (hE : Free E) : FreeS w (OwnS v) := fun b hb => by
  obtain ⟨cur, hc⟩ := h.typ hb
  exact ⟨cur, E, _, hc, hE⟩
theorem Own.apart {α β : Type} {sz sz' : Nat} {enc : α → List Value} {enc' : β → List Value} {E E' base base' : Nat} {w : World} {v v' : Value} {xs : List α} {ys : List β} (h : Own sz enc E base w v xs) (h' : Own sz' enc' E' base' w v' ys) (hE : E ≠ E') (b : Nat) (hb : OwnS v b) : ¬ OwnS v' b := fun hb' => by
  obtain ⟨c1, h1⟩ := h.typ hb
  obtain ⟨c2, h2⟩ := h'.typ hb'
  rw [h1] at h2
  simp at h2
  exact hE h2.2
theorem Own.keptS {α : Type} {sz : Nat} {enc : α → List Value} {E base : Nat} {S : Nat → Prop} {w w' : World} {v : Value} {xs : List α} (h : Own sz enc E base w v xs) (hk : Kept S w w') (hs : ∀ b, OwnS v b → ¬ S b) : Own sz enc E base w' v xs := by
  obtain ⟨h1, h2⟩ := h.own
  refine ⟨h1, ?_⟩
  rcases h2 with h2 | ⟨g, cap, cur, hv, hg, hh, r⟩
  · exact .inl h2
  · exact .inr ⟨g, cap, cur, hv, hg, (hk.block g (block_lt hh) (hs g (by rw [hv]; rfl))).trans hh, r⟩
theorem Own.ltS {α : Type} {sz : Nat} {enc : α → List Value} {E base : Nat} {w : World} {v : Value} {xs : List α} (h : Own sz enc E base w v xs) {b : Nat} (hb : OwnS v b) : b < w.heap.size := by
  obtain ⟨cur, hc⟩ := h.typ hb
  exact block_lt hc
theorem FdAt.freeS {W : World} {b : Nat} {f : Fd} (h : FdAt W b f) : FreeS W (One b) := fun c hc => by
  have e : c = b := hc
  subst e
  exact ⟨_, _, _, h.blk, by unfold Free; decide⟩
theorem free_V : Free 22 := by unfold Free; decide
theorem free_F : Free 31 := by unfold Free; decide
theorem free_T : Free 55 := by unfold Free; decide
theorem Head.free {S : Nat → Prop} {w w' : World} {b : Nat} {xs : Ps} (h : Head w b xs) (hk : Kept S w w') (hf : FreeS w S) : Head w' b xs := by
  refine h.kept hk (fun hb => ?_) (fun T hT c hc hs => ?_)
  · obtain ⟨T, h1, _⟩ := h.ex
    obtain ⟨cur, ty, z, h2, h3⟩ := hf b hb
    unfold tObj at h1
    rw [h1] at h2
    simp at h2
    exact h3.2.2 h2.2.1.symm
  · obtain ⟨l, r, d, k, hh, ho⟩ := hT.obj hc
    obtain ⟨cur, ty, z, h2, h3⟩ := hf c hs
    unfold nodeObj at ho
    rw [ho] at h2
    simp at h2
    exact h3.2.1 h2.2.1.symm
/-- a set in a slice whose elements lie in a block of pairs -/
structure PV (w : World) (s : Sh) (xs : Ps) : Prop where
  sl : SlP w (shv s) xs
  blk : xs ≠ [] → ∀ b, OwnS (shv s) b → ∃ cur z, w.heap[b]? = some (.cells cur 27 z)
theorem PV.free {S : Nat → Prop} {w w' : World} {s : Sh} {xs : Ps} (h : PV w s xs) (hk : Kept S w w') (hf : FreeS w S) : PV w' s xs := by
  by_cases hx : xs = []
  · subst hx
    obtain ⟨a, cap, hv, _⟩ := h.sl.ex
    exact ⟨⟨a, cap, hv, fun i x hx => by simp at hx⟩, fun hx => absurd rfl hx⟩
  · have hn : ∀ b, OwnS (shv s) b → ¬ S b := fun b hb hs => by
      obtain ⟨cur, z, h1⟩ := h.blk hx b hb
      obtain ⟨cur2, ty, z2, h2, h3⟩ := hf b hs
      rw [h1] at h2
      simp at h2
      exact h3.1 h2.2.1.symm
    refine ⟨h.sl.kept hk hn, fun _ b hb => ?_⟩
    obtain ⟨cur, z, h1⟩ := h.blk hx b hb
    exact ⟨cur, z, (hk.block b (block_lt h1) (hn b hb)).trans h1⟩
theorem freeNon (w : World) : FreeS w Non := fun _ h => h.elim
theorem PV.ext {w w' : World} {s : Sh} {xs : Ps} (h : PV w s xs) (hk : Kept Non w w') : PV w' s xs := h.free hk (freeNon w)
theorem OwnP.pv {base : Nat} {w : World} {v : Value} {xs : Ps} (h : OwnP base w v xs) : ∃ s, v = shv s ∧ PV w s xs := by
  obtain ⟨a, c, e⟩ := (OwnP.sl h).form
  refine ⟨(a, xs.length, c), e, ⟨by have := OwnP.sl h; rw [e] at this; exact this, fun _ b hb => ?_⟩⟩
  have hb' : OwnS v b := by rw [e]; exact hb
  obtain ⟨cur, hc⟩ := h.typ hb'
  exact ⟨cur, _, hc⟩

/-- the state of a history: its versions, and what has been told -/
structure Hs {α : Type} (enc : α → List Value) (E : Nat) (P : World → α → Ps → Prop) (w W : World) (o t : Value) (vals : List α) (vs : List Ps) (fs : List Fd) : Prop where
  own : Own 1 enc E w.heap.size W o vals
  len : vals.length = vs.length
  each : ∀ (i : Nat) (s : α) (xs : Ps), vals[i]? = some s → vs[i]? = some xs → P W s xs
  tol : OwnF w.heap.size W t fs
  kept : Kept Non w W
/-- a fact that blocks of other types do not touch -/
def PK {α : Type} (P : World → α → Ps → Prop) : Prop := ∀ (S : Nat → Prop) (w w' : World) (s : α) (xs : Ps), P w s xs → Kept S w w' → FreeS w S → P w' s xs
theorem Hs.free {α : Type} {enc : α → List Value} {E : Nat} {P : World → α → Ps → Prop} (hP : PK P) {w W W' : World} {o t : Value} {vals : List α} {vs : List Ps} {fs : List Fd} {S : Nat → Prop}
    (h : Hs enc E P w W o t vals vs fs) (hk : Kept S W W') (hf : FreeS W S) (h1 : ∀ b, OwnS o b → ¬ S b) (h2 : ∀ b, OwnS t b → ¬ S b) (h4 : ∀ i, i < w.heap.size → ¬ S i) : Hs enc E P w W' o t vals vs fs :=
  ⟨h.own.keptS hk h1, h.len, fun i s xs a b => hP _ _ _ _ _ (h.each i s xs a b) hk hf, h.tol.keptS hk h2, h.kept.trans' hk (fun i hi hs => absurd hs (h4 i hi))⟩
theorem Hs.ext {α : Type} {enc : α → List Value} {E : Nat} {P : World → α → Ps → Prop} (hP : PK P) {w W W' : World} {o t : Value} {vals : List α} {vs : List Ps} {fs : List Fd}
    (h : Hs enc E P w W o t vals vs fs) (hk : Kept Non W W') : Hs enc E P w W' o t vals vs fs := h.free hP hk (freeNon W) (fun _ _ h => h) (fun _ _ h => h) (fun _ _ h => h)
theorem Hs.app {α : Type} {enc : α → List Value} {E : Nat} {P : World → α → Ps → Prop} (hP : PK P) {w W W' : World} {o t o' : Value} {vals : List α} {vs : List Ps} {fs : List Fd} {s : α} {xs : Ps}
    (h : Hs enc E P w W o t vals vs fs) (hs : P W s xs) (hE : Free E) (hEF : E ≠ 31) (g1 : Own 1 enc E w.heap.size W' o' (vals ++ [s])) (g2 : Kept (OwnS o) W W') : Hs enc E P w W' o' t (vals ++ [s]) (vs ++ [xs]) fs := by
  have hf := h.own.free hE
  refine ⟨g1, by simp [h.len], fun i s' xs' a b => ?_, h.tol.keptS g2 (fun b hb hb' => h.own.apart h.tol hEF b hb' hb), h.kept.trans' g2 (fun i hi e => by have := h.own.block i e; omega)⟩
  by_cases hi : i < vals.length
  · rw [List.getElem?_append_left hi] at a
    rw [List.getElem?_append_left (by rw [← h.len]; exact hi)] at b
    exact hP _ _ _ _ _ (h.each i _ _ a b) g2 hf
  · have hi2 : i = vals.length := by
      have := (List.getElem?_eq_some_iff.1 a).1
      simp at this
      omega
    subst hi2
    rw [List.getElem?_append_right (Nat.le_refl _)] at a
    rw [h.len, List.getElem?_append_right (Nat.le_refl _)] at b
    simp at a b
    subst a b
    exact hP _ _ _ _ _ hs g2 hf
theorem Hs.appF {α : Type} {enc : α → List Value} {E : Nat} {P : World → α → Ps → Prop} (hP : PK P) {w W W' : World} {o t t' : Value} {vals : List α} {vs : List Ps} {fs : List Fd} {f : Fd}
    (h : Hs enc E P w W o t vals vs fs) (hEF : E ≠ 31) (g1 : OwnF w.heap.size W' t' (fs ++ [f])) (g2 : Kept (OwnS t) W W') : Hs enc E P w W' o t' vals vs (fs ++ [f]) :=
  ⟨h.own.keptS g2 (h.own.apart h.tol hEF), h.len, fun i s xs a b => hP _ _ _ _ _ (h.each i s xs a b) g2 (h.tol.free free_F), g1, h.kept.trans' g2 (fun i hi e => by have := h.tol.block i e; omega)⟩
theorem Hs.form {α : Type} {enc : α → List Value} {E : Nat} {P : World → α → Ps → Prop} {w W : World} {o t : Value} {vals : List α} {vs : List Ps} {fs : List Fd} (henc : ∀ x, (enc x).length = 1) (h : Hs enc E P w W o t vals vs fs) : (∃ a c, o = .slice a vs.length c) ∧ ∃ a c, t = .slice a fs.length c := by
  obtain ⟨a, c, e⟩ := (Own.sl henc h.own).form
  obtain ⟨a', c', e'⟩ := OwnF.form h.tol
  exact ⟨⟨a, c, by rw [e, h.len]⟩, a', c', e'⟩
/-- a version, as the row of versions holds it -/
theorem Hs.get {α : Type} {enc : α → List Value} {E : Nat} {P : World → α → Ps → Prop} {w W : World} {a : Option Addr} {n c : Nat} {t : Value} {vals : List α} {vs : List Ps} {fs : List Fd} (henc : ∀ x, (enc x).length = 1) (h : Hs enc E P w W (.slice a n c) t vals vs fs) (i : Nat) (hi : i < vs.length) :
    ∃ g off s, a = some ⟨g, off, none⟩ ∧ g < W.heap.size ∧ (∀ u, (enc s)[0]? = some u → W.cell? ⟨g, off + i, none⟩ = some u) ∧ P W s (vs.getD i []) := by
  have hi' : i < vals.length := by rw [h.len]; exact hi
  obtain ⟨g, off, ha, hg, hc⟩ := (Own.sl henc h.own).cells (Kept.refl Non W) i hi'
  refine ⟨g, off, vals[i], ha, hg, fun u hu => by have := hc 0 u hu; simpa using this, ?_⟩
  refine h.each i _ _ (List.getElem?_eq_getElem hi') ?_
  rw [List.getD_eq_getElem?_getD, List.getElem?_eq_getElem hi]; rfl

end Go.Proofs.Ytehegllgaiehfaa
