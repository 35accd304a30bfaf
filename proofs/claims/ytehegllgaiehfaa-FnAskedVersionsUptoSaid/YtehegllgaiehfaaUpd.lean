/- impl.update and spec.Update. -/
import Derived.Test.YtehegllgaiehfaaAc
namespace Go.Proofs.Ytehegllgaiehfaa
open Go.RowKit

set_option maxRecDepth 100000 in
theorem update_0 (w : World) (b : Nat) (xs : Ps) (a : Ac) (h : Head w b xs) (hk : -2147483648 < a.key ∧ a.key ≤ 2147483647) (h0 : bits .and .i64 a.kind 3 = 0) : Calls Try.prog 73 #[.pointer (some ⟨b, 0, none⟩), acv a] w (UpdRes w b (put a.key a.data xs, fdAt a.key (findP a.key xs))) := by
  simp only [acv]
  have HH := hid0 (And.intro h hk)
  have hb0 := h.lt
  have q0 : (bits .and .i64 a.kind 3 == 0) = true := by simpa using h0
  obtain ⟨f, hf⟩ : ∃ f, f = fdAt a.key (findP a.key xs) := ⟨_, rfl⟩
  rw [← hf]
  have HF := hid0 hf
  obtain ⟨f0, f1, f2⟩ := f
  obtain ⟨dd, hd⟩ : ∃ dd, dd = dv (findP a.key xs) := ⟨_, rfl⟩
  have HD := hid0 hd
  clear h h0 hk hf hd
  go_enter Try.func73, Try.ntmps73
  go_wp2_with fail
  refine wp_gen (fun W => Us w b w.heap.size (w.heap.size + 1) a xs W) ⟨HH.out.1.ext (((Kept.refl _ _).alloc _).alloc _), ((Kept.refl _ _).alloc _).alloc _, ⟨(alloc_old _ (by simp)).trans (alloc_new _ _)⟩, ⟨by have := alloc_new (w.alloc (.cells (ac a).toArray 47)) (.cells #[.int .i32 0, .int .i64 0, .bool false] 31); simpa [ac] using this⟩, by omega, by omega, by omega, by omega⟩ ?_
  rintro W hU
  have HU := hid0 hU
  obtain ⟨c3, c4, hK⟩ := hU.cells
  clear hU
  go_region_held3 (fun W' => W'.cell? ⟨w.heap.size, 3, none⟩ = some (.int .i32 a.key) ∧ W'.cell? ⟨w.heap.size, 4, none⟩ = some (.int .i64 a.data) ∧ Kept (One b) w W')
    (first | exact HU.out.drew.cells | exact hU1.cells | exact hU2.cells | exact hU2.setc _ _ _)
    (first | (go_at_call 53; refine (TInsert_any _ b xs a.key a.data HH.out.2 HU.out.drew.head).mono ?_; rintro e W1 ⟨rfl, gA, gB⟩; have hU1 := HU.out.drew.turn gA gB; rw [← HD.out]) | (go_at_call 32; rw [HD.out]; refine (found_at _ a.key (findP a.key xs)).mono ?_; rintro e W2 ⟨rfl, gC⟩; have hU2 := hU1.ext gC; obtain ⟨r0, r1, r2, rf⟩ := hU2.fdc; rw [← HF.out]; simp only [fv]))
  go_wp2
  refine bodyPost_ret (v := .agg #[.int .i32 f0, .int .i64 f1, .bool f2]) (by simp [results, Try.results73, go_sem, *]) rfl ⟨rfl, (hU2.set (f0, f1, f2)).1, (hU2.set (f0, f1, f2)).2.1⟩

set_option maxRecDepth 100000 in
theorem update_1 (w : World) (b : Nat) (xs : Ps) (a : Ac) (h : Head w b xs) (h0 : bits .and .i64 a.kind 3 = 1) : Calls Try.prog 73 #[.pointer (some ⟨b, 0, none⟩), acv a] w (UpdRes w b (drop a.key xs, fdAt a.key (findP a.key xs))) := by
  simp only [acv]
  have HH := hid0 (And.intro h h0)
  have hb0 := h.lt
  have q0 : (bits .and .i64 a.kind 3 == 0) = false := by rw [h0]; rfl
  have q1 : (bits .and .i64 a.kind 3 == 1) = true := by simpa using h0
  obtain ⟨f, hf⟩ : ∃ f, f = fdAt a.key (findP a.key xs) := ⟨_, rfl⟩
  rw [← hf]
  have HF := hid0 hf
  obtain ⟨f0, f1, f2⟩ := f
  obtain ⟨dd, hd⟩ : ∃ dd, dd = dv (findP a.key xs) := ⟨_, rfl⟩
  have HD := hid0 hd
  clear h h0 hf hd
  go_enter Try.func73, Try.ntmps73
  go_wp2_with fail
  refine wp_gen (fun W => Us w b w.heap.size (w.heap.size + 1) a xs W) ⟨HH.out.1.ext (((Kept.refl _ _).alloc _).alloc _), ((Kept.refl _ _).alloc _).alloc _, ⟨(alloc_old _ (by simp)).trans (alloc_new _ _)⟩, ⟨by have := alloc_new (w.alloc (.cells (ac a).toArray 47)) (.cells #[.int .i32 0, .int .i64 0, .bool false] 31); simpa [ac] using this⟩, by omega, by omega, by omega, by omega⟩ ?_
  rintro W hU
  have HU := hid0 hU
  obtain ⟨c3, c4, hK⟩ := hU.cells
  clear hU
  go_region_held3 (fun W' => W'.cell? ⟨w.heap.size, 3, none⟩ = some (.int .i32 a.key) ∧ W'.cell? ⟨w.heap.size, 4, none⟩ = some (.int .i64 a.data) ∧ Kept (One b) w W')
    (first | exact HU.out.drew.cells | exact hU1.cells | exact hU2.cells | exact hU2.setc _ _ _)
    (first | (go_at_call 59; refine (TDelete_any _ b xs a.key HU.out.drew.head).mono ?_; rintro e W1 ⟨rfl, gA, gB⟩; have hU1 := HU.out.drew.turn gA gB; rw [← HD.out]) | (go_at_call 32; rw [HD.out]; refine (found_at _ a.key (findP a.key xs)).mono ?_; rintro e W2 ⟨rfl, gC⟩; have hU2 := hU1.ext gC; obtain ⟨r0, r1, r2, rf⟩ := hU2.fdc; rw [← HF.out]; simp only [fv]))
  go_wp2
  refine bodyPost_ret (v := .agg #[.int .i32 f0, .int .i64 f1, .bool f2]) (by simp [results, Try.results73, go_sem, *]) rfl ⟨rfl, (hU2.set (f0, f1, f2)).1, (hU2.set (f0, f1, f2)).2.1⟩

set_option maxRecDepth 100000 in
theorem update_2 (w : World) (b : Nat) (xs : Ps) (a : Ac) (h : Head w b xs) (h0 : bits .and .i64 a.kind 3 = 2) : Calls Try.prog 73 #[.pointer (some ⟨b, 0, none⟩), acv a] w (UpdRes w b (drop (fdOf xs.head?).1 xs, fdOf xs.head?)) := by
  simp only [acv]
  have HH := hid0 h
  have hb0 := h.lt
  have q0 : (bits .and .i64 a.kind 3 == 0) = false := by rw [h0]; rfl
  have q1 : (bits .and .i64 a.kind 3 == 1) = false := by rw [h0]; rfl
  have q2 : (bits .and .i64 a.kind 3 == 2) = true := by simpa using h0
  obtain ⟨f, hf⟩ : ∃ f, f = fdOf xs.head? := ⟨_, rfl⟩
  obtain ⟨ys, hy⟩ : ∃ ys, ys = drop (fdOf xs.head?).1 xs := ⟨_, rfl⟩
  rw [← hy, ← hf]
  have HY : Hid (ys = xs.tail) := hy.trans (drop_head h.ok.srt)
  have HF := hid0 hf
  obtain ⟨f0, f1, f2⟩ := f
  clear h h0 hf hy
  go_enter Try.func73, Try.ntmps73
  have hU0 : Us w b w.heap.size (w.heap.size + 1) a xs ((w.alloc (.cells (ac a).toArray 47)).alloc (.cells #[.int .i32 0, .int .i64 0, .bool false] 31)) := ⟨HH.out.ext (((Kept.refl _ _).alloc _).alloc _), ((Kept.refl _ _).alloc _).alloc _, ⟨(alloc_old _ (by simp)).trans (alloc_new _ _)⟩, ⟨by have := alloc_new (w.alloc (.cells (ac a).toArray 47)) (.cells #[.int .i32 0, .int .i64 0, .bool false] 31); simpa [ac] using this⟩, by omega, by omega, by omega, by omega⟩
  have HU := hid0 hU0
  clear hU0
  go_wp2_with fail
  refine (TDeleteMin_any _ b xs HU.out.head).mono ?_
  rintro e W1 ⟨rfl, gA, gB⟩
  have HU1 := hid0 (HU.out.turn gA gB)
  clear gA gB
  obtain ⟨k1, d1, e1, g1⟩ := found_kd W1 xs.head?
  rw [e1]
  have HG1 := hid0 g1
  clear e1 g1
  go_wp2_with fail
  refine HG1.out.mono ?_
  rintro e W2 ⟨rfl, gC⟩
  have hU2 := HU1.out.ext gC
  rw [← HY.out] at hU2
  obtain ⟨r0, r1, r2, rf⟩ := hU2.fdc
  rw [← HF.out]
  simp only [fv]
  have HU2 := hid0 hU2
  clear hU2 gC HG1 HU1 HU
  go_wp2
  refine bodyPost_ret (v := .agg #[.int .i32 f0, .int .i64 f1, .bool f2]) (by simp [results, Try.results73, go_sem, *]) rfl ⟨rfl, (HU2.out.set (f0, f1, f2)).1, (HU2.out.set (f0, f1, f2)).2.1⟩

set_option maxRecDepth 100000 in
theorem update_3 (w : World) (b : Nat) (xs : Ps) (a : Ac) (h : Head w b xs) (h0 : bits .and .i64 a.kind 3 ≠ 0 ∧ bits .and .i64 a.kind 3 ≠ 1 ∧ bits .and .i64 a.kind 3 ≠ 2) : Calls Try.prog 73 #[.pointer (some ⟨b, 0, none⟩), acv a] w (UpdRes w b (drop (fdOf xs.getLast?).1 xs, fdOf xs.getLast?)) := by
  simp only [acv]
  have HH := hid0 h
  have hb0 := h.lt
  have q0 : (bits .and .i64 a.kind 3 == 0) = false := by simpa using h0.1
  have q1 : (bits .and .i64 a.kind 3 == 1) = false := by simpa using h0.2.1
  have q2 : (bits .and .i64 a.kind 3 == 2) = false := by simpa using h0.2.2
  obtain ⟨f, hf⟩ : ∃ f, f = fdOf xs.getLast? := ⟨_, rfl⟩
  obtain ⟨ys, hy⟩ : ∃ ys, ys = drop (fdOf xs.getLast?).1 xs := ⟨_, rfl⟩
  rw [← hy, ← hf]
  have HY : Hid (ys = xs.dropLast) := hy.trans (drop_last h.ok.srt)
  have HF := hid0 hf
  obtain ⟨f0, f1, f2⟩ := f
  clear h h0 hf hy
  go_enter Try.func73, Try.ntmps73
  have hU0 : Us w b w.heap.size (w.heap.size + 1) a xs ((w.alloc (.cells (ac a).toArray 47)).alloc (.cells #[.int .i32 0, .int .i64 0, .bool false] 31)) := ⟨HH.out.ext (((Kept.refl _ _).alloc _).alloc _), ((Kept.refl _ _).alloc _).alloc _, ⟨(alloc_old _ (by simp)).trans (alloc_new _ _)⟩, ⟨by have := alloc_new (w.alloc (.cells (ac a).toArray 47)) (.cells #[.int .i32 0, .int .i64 0, .bool false] 31); simpa [ac] using this⟩, by omega, by omega, by omega, by omega⟩
  have HU := hid0 hU0
  clear hU0
  go_wp2_with fail
  refine (TDeleteMax_any _ b xs HU.out.head).mono ?_
  rintro e W1 ⟨rfl, gA, gB⟩
  have HU1 := hid0 (HU.out.turn gA gB)
  clear gA gB
  obtain ⟨k1, d1, e1, g1⟩ := found_kd W1 xs.getLast?
  rw [e1]
  have HG1 := hid0 g1
  clear e1 g1
  go_wp2_with fail
  refine HG1.out.mono ?_
  rintro e W2 ⟨rfl, gC⟩
  have hU2 := HU1.out.ext gC
  rw [← HY.out] at hU2
  obtain ⟨r0, r1, r2, rf⟩ := hU2.fdc
  rw [← HF.out]
  simp only [fv]
  have HU2 := hid0 hU2
  clear hU2 gC HG1 HU1 HU
  go_wp2
  refine bodyPost_ret (v := .agg #[.int .i32 f0, .int .i64 f1, .bool f2]) (by simp [results, Try.results73, go_sem, *]) rfl ⟨rfl, (HU2.out.set (f0, f1, f2)).1, (HU2.out.set (f0, f1, f2)).2.1⟩

theorem update_any (w : World) (b : Nat) (xs : Ps) (a : Ac) (h : Head w b xs) (hk : -2147483648 < a.key ∧ a.key ≤ 2147483647) : Calls Try.prog 73 #[.pointer (some ⟨b, 0, none⟩), acv a] w (UpdRes w b (upd xs a)) := by
  unfold upd
  split
  · exact update_0 w b xs a h hk (by assumption)
  · split
    · exact update_1 w b xs a h (by assumption)
    · split
      · exact update_2 w b xs a h (by assumption)
      · exact update_3 w b xs a h ⟨by assumption, by assumption, by assumption⟩

/-- what the regions of spec.Update lean on -/
structure Ss (W : World) (ab rb : Nat) (a : Ac) (W1 : World) : Prop where
  kept : Kept Non W W1
  act : AcB W1 ab a
  res : FdAt W1 rb (0, 0, false)
  ar : ab ≠ rb
  rn : W.heap.size ≤ rb
theorem Ss.ext {W W1 W2 : World} {ab rb : Nat} {a : Ac} (h : Ss W ab rb a W1) (hk : Kept Non W1 W2) : Ss W ab rb a W2 := ⟨h.kept.trans hk, h.act.ext hk, h.res.ext hk, h.ar, h.rn⟩
theorem Ss.drew {W W1 : World} {ab rb : Nat} {a : Ac} (h : Ss W ab rb a W1) : Ss W ab rb a W1.drew := h.ext (Kept.refl _ _).drew
theorem Ss.cells {W W1 : World} {ab rb : Nat} {a : Ac} (h : Ss W ab rb a W1) : W1.cell? ⟨ab, 3, none⟩ = some (.int .i32 a.key) ∧ W1.cell? ⟨ab, 4, none⟩ = some (.int .i64 a.data) ∧ Kept Non W W1 := ⟨by simpa using h.act.at.c3, by simpa using h.act.at.c4, h.kept⟩
theorem Ss.fdc {W W1 : World} {ab rb : Nat} {a : Ac} (h : Ss W ab rb a W1) : FdC W1 rb := ⟨h.res.c0, h.res.c1, h.res.c2, h.res.fz⟩
theorem Ss.setc {W W1 : World} {ab rb : Nat} {a : Ac} (h : Ss W ab rb a W1) (x d : Int) (p : Bool) :
    (((W1.setCell ⟨rb, 0, none⟩ (.int .i32 x)).setCell ⟨rb, 1, none⟩ (.int .i64 d)).setCell ⟨rb, 2, none⟩ (.bool p)).cell? ⟨ab, 3, none⟩ = some (.int .i32 a.key) ∧ (((W1.setCell ⟨rb, 0, none⟩ (.int .i32 x)).setCell ⟨rb, 1, none⟩ (.int .i64 d)).setCell ⟨rb, 2, none⟩ (.bool p)).cell? ⟨ab, 4, none⟩ = some (.int .i64 a.data) ∧ Kept Non W (((W1.setCell ⟨rb, 0, none⟩ (.int .i32 x)).setCell ⟨rb, 1, none⟩ (.int .i64 d)).setCell ⟨rb, 2, none⟩ (.bool p)) := by
  have hr := h.rn
  have h3 : AcB (((W1.setCell ⟨rb, 0, none⟩ (.int .i32 x)).setCell ⟨rb, 1, none⟩ (.int .i64 d)).setCell ⟨rb, 2, none⟩ (.bool p)) ab a := ⟨((FdAt.setK (g := (x, d, p))).block _ (block_lt h.act.blk) (fun e => h.ar e)).trans h.act.blk⟩
  exact ⟨by simpa using h3.at.c3, by simpa using h3.at.c4, h.kept.trans' (FdAt.setK (g := (x, d, p))) (fun i hi e => by have e' : i = rb := e; omega)⟩
def SUpdRes (w : World) (r : Ps × Fd) (e : Ending) (w' : World) : Prop := ∃ v, e = .returned (.tuple #[v, fv r.2]) ∧ OwnP w.heap.size w' v r.1 ∧ Kept Non w w'
theorem Ss.own {W W1 W2 : World} {ab rb base : Nat} {a : Ac} {v : Value} {ys : Ps} (h : Ss W ab rb a W1) (ho : OwnP base W2 v ys) (hb : rb < base) (x d : Int) (p : Bool) : OwnP W.heap.size (((W2.setCell ⟨rb, 0, none⟩ (.int .i32 x)).setCell ⟨rb, 1, none⟩ (.int .i64 d)).setCell ⟨rb, 2, none⟩ (.bool p)) v ys :=
  (ho.ext (FdAt.setK (g := (x, d, p))) (fun c hc e => by have e' : c = rb := e; omega)).mono (by have := h.rn; omega)

set_option maxRecDepth 100000 in
theorem Update_0 (w : World) (v : Value) (xs : Ps) (a : Ac) (h : SlP w v xs) (hl : xs.length ≤ 4294967296) (h0 : bits .and .i64 a.kind 3 = 0) : Calls Try.prog 44 #[v, acv a] w (SUpdRes w (put a.key a.data xs, fdAt a.key (findP a.key xs))) := by
  simp only [acv]
  have HH := hid0 h
  have q0 : (bits .and .i64 a.kind 3 == 0) = true := by simpa using h0
  obtain ⟨f, hf⟩ : ∃ f, f = fdAt a.key (findP a.key xs) := ⟨_, rfl⟩
  rw [← hf]
  have HF := hid0 hf
  obtain ⟨f0, f1, f2⟩ := f
  clear h h0 hf
  go_enter Try.func44, Try.ntmps44
  go_wp2_with fail
  refine wp_gen (fun W => Ss w w.heap.size (w.heap.size + 1) a W) ⟨((Kept.refl _ _).alloc _).alloc _, ⟨(alloc_old _ (by simp)).trans (alloc_new _ _)⟩, ⟨by have := alloc_new (w.alloc (.cells (ac a).toArray 47)) (.cells #[.int .i32 0, .int .i64 0, .bool false] 31); simpa [ac] using this⟩, by omega, by omega⟩ ?_
  rintro W hU
  have HU := hid0 hU
  obtain ⟨c3, c4, hK⟩ := hU.cells
  clear hU
  go_region_held3 (fun W' => W'.cell? ⟨w.heap.size, 3, none⟩ = some (.int .i32 a.key) ∧ W'.cell? ⟨w.heap.size, 4, none⟩ = some (.int .i64 a.data) ∧ Kept Non w W')
    (first | exact HU.out.drew.cells | exact hU1.cells | exact hU2.cells | exact hU2.setc _ _ _)
    (first | (go_at_call 37; refine (Put_any _ _ xs a.key a.data (HH.out.ext HU.out.drew.kept) hl).mono ?_; rintro e W1 ⟨v1, rfl, gP, gK⟩; have hU1 := HU.out.drew.ext gK) | (go_at_call 48; refine (At_any _ _ xs a.key (HH.out.ext hU1.kept) (by omega)).mono ?_; rintro e W2 ⟨rfl, gC⟩; have hU2 := hU1.ext gC; obtain ⟨r0, r1, r2, rf⟩ := hU2.fdc; rw [← HF.out]; simp only [fv]))
  go_wp2
  refine bodyPost_ret (v := .tuple #[v1, .agg #[.int .i32 f0, .int .i64 f1, .bool f2]]) (by simp [results, Try.results44, go_sem, *]) rfl ⟨v1, rfl, hU2.own (gP.ext' gC) (block_lt HU.out.drew.res.blk) f0 f1 f2, (hU2.setc f0 f1 f2).2.2⟩

set_option maxRecDepth 100000 in
theorem Update_1 (w : World) (v : Value) (xs : Ps) (a : Ac) (h : SlP w v xs) (hl : xs.length ≤ 4294967296) (h0 : bits .and .i64 a.kind 3 = 1) : Calls Try.prog 44 #[v, acv a] w (SUpdRes w (drop a.key xs, fdAt a.key (findP a.key xs))) := by
  simp only [acv]
  have HH := hid0 h
  have q0 : (bits .and .i64 a.kind 3 == 0) = false := by rw [h0]; rfl
  have q1 : (bits .and .i64 a.kind 3 == 1) = true := by simpa using h0
  obtain ⟨f, hf⟩ : ∃ f, f = fdAt a.key (findP a.key xs) := ⟨_, rfl⟩
  rw [← hf]
  have HF := hid0 hf
  obtain ⟨f0, f1, f2⟩ := f
  clear h h0 hf
  go_enter Try.func44, Try.ntmps44
  go_wp2_with fail
  refine wp_gen (fun W => Ss w w.heap.size (w.heap.size + 1) a W) ⟨((Kept.refl _ _).alloc _).alloc _, ⟨(alloc_old _ (by simp)).trans (alloc_new _ _)⟩, ⟨by have := alloc_new (w.alloc (.cells (ac a).toArray 47)) (.cells #[.int .i32 0, .int .i64 0, .bool false] 31); simpa [ac] using this⟩, by omega, by omega⟩ ?_
  rintro W hU
  have HU := hid0 hU
  obtain ⟨c3, c4, hK⟩ := hU.cells
  clear hU
  go_region_held3 (fun W' => W'.cell? ⟨w.heap.size, 3, none⟩ = some (.int .i32 a.key) ∧ W'.cell? ⟨w.heap.size, 4, none⟩ = some (.int .i64 a.data) ∧ Kept Non w W')
    (first | exact HU.out.drew.cells | exact hU1.cells | exact hU2.cells | exact hU2.setc _ _ _)
    (first | (go_at_call 70; refine (Drop_any _ _ xs a.key (HH.out.ext HU.out.drew.kept) (by omega)).mono ?_; rintro e W1 ⟨v1, rfl, gP, gK⟩; have hU1 := HU.out.drew.ext gK) | (go_at_call 48; refine (At_any _ _ xs a.key (HH.out.ext hU1.kept) (by omega)).mono ?_; rintro e W2 ⟨rfl, gC⟩; have hU2 := hU1.ext gC; obtain ⟨r0, r1, r2, rf⟩ := hU2.fdc; rw [← HF.out]; simp only [fv]))
  go_wp2
  refine bodyPost_ret (v := .tuple #[v1, .agg #[.int .i32 f0, .int .i64 f1, .bool f2]]) (by simp [results, Try.results44, go_sem, *]) rfl ⟨v1, rfl, hU2.own (gP.ext' gC) (block_lt HU.out.drew.res.blk) f0 f1 f2, (hU2.setc f0 f1 f2).2.2⟩

set_option maxRecDepth 100000 in
theorem Update_2 (w : World) (v : Value) (xs : Ps) (a : Ac) (h : SlP w v xs) (hl : xs.length ≤ 4294967296) (h0 : bits .and .i64 a.kind 3 = 2) : Calls Try.prog 44 #[v, acv a] w (SUpdRes w (drop (fdOf xs.head?).1 xs, fdOf xs.head?)) := by
  simp only [acv]
  have HH := hid0 h
  have q0 : (bits .and .i64 a.kind 3 == 0) = false := by rw [h0]; rfl
  have q1 : (bits .and .i64 a.kind 3 == 1) = false := by rw [h0]; rfl
  have q2 : (bits .and .i64 a.kind 3 == 2) = true := by simpa using h0
  obtain ⟨f, hf⟩ : ∃ f, f = fdOf xs.head? := ⟨_, rfl⟩
  rw [← hf]
  have HF := hid0 hf
  obtain ⟨f0, f1, f2⟩ := f
  clear h h0 hf
  go_enter Try.func44, Try.ntmps44
  have hU0 : Ss w w.heap.size (w.heap.size + 1) a ((w.alloc (.cells (ac a).toArray 47)).alloc (.cells #[.int .i32 0, .int .i64 0, .bool false] 31)) := ⟨((Kept.refl _ _).alloc _).alloc _, ⟨(alloc_old _ (by simp)).trans (alloc_new _ _)⟩, ⟨by have := alloc_new (w.alloc (.cells (ac a).toArray 47)) (.cells #[.int .i32 0, .int .i64 0, .bool false] 31); simpa [ac] using this⟩, by omega, by omega⟩
  have HU := hid0 hU0
  clear hU0
  go_wp2_with fail
  refine (Least_any _ _ xs (HH.out.ext HU.out.kept)).mono ?_
  rintro e W1 ⟨rfl, gC⟩
  have HU1 := hid0 (HU.out.ext gC)
  clear gC
  rw [← HF.out]
  simp only [fv]
  go_wp2_with fail
  refine wp_gen (fun W => Ss w w.heap.size (w.heap.size + 1) a W ∧ FdAt W W1.heap.size (f0, f1, f2)) ⟨HU1.out.ext ((Kept.refl _ _).alloc _), ⟨alloc_new _ _⟩⟩ ?_
  rintro W ⟨hU, hL⟩
  have HU2 := hid0 (And.intro hU hL)
  have hs1 := block_lt HU1.out.res.blk
  have l0 := hL.c0
  have l1 := hL.c1
  have l2 := hL.c2
  have hK := hU.kept
  simp only at l0 l1 l2
  clear hU hL
  go_region_held3 (fun W' => W'.cell? ⟨W1.heap.size, 0, none⟩ = some (.int .i32 f0) ∧ W'.cell? ⟨W1.heap.size, 1, none⟩ = some (.int .i64 f1) ∧ W'.cell? ⟨W1.heap.size, 2, none⟩ = some (.bool f2) ∧ Kept Non w W')
    (first | exact ⟨(HU2.out.2.ext (Kept.refl _ _).drew).c0, (HU2.out.2.ext (Kept.refl _ _).drew).c1, (HU2.out.2.ext (Kept.refl _ _).drew).c2, HU2.out.1.drew.kept⟩ | exact ⟨hL3.c0, hL3.c1, hL3.c2, hU3.kept⟩ | exact ⟨(hL3.keptO (FdAt.setK (g := (f0, f1, f2))) (fun e => by have e' : W1.heap.size = w.heap.size + 1 := e; omega)).c0, (hL3.keptO (FdAt.setK (g := (f0, f1, f2))) (fun e => by have e' : W1.heap.size = w.heap.size + 1 := e; omega)).c1, (hL3.keptO (FdAt.setK (g := (f0, f1, f2))) (fun e => by have e' : W1.heap.size = w.heap.size + 1 := e; omega)).c2, (hU3.setc f0 f1 f2).2.2⟩)
    (first | (go_at_call 70; refine (Drop_any _ _ xs _ (HH.out.ext HU2.out.1.drew.kept) (by omega)).mono ?_; rintro e W3 ⟨v1, rfl, gP, gK⟩; have hU3 := HU2.out.1.drew.ext gK; have hL3 := (HU2.out.2.ext (Kept.refl _ _).drew).ext gK; obtain ⟨r0, r1, r2, rf⟩ := hU3.fdc))
  go_wp2
  refine bodyPost_ret (v := .tuple #[v1, .agg #[.int .i32 f0, .int .i64 f1, .bool f2]]) (by simp [results, Try.results44, go_sem, *]) rfl ⟨v1, rfl, hU3.own gP (block_lt HU2.out.1.drew.res.blk) f0 f1 f2, (hU3.setc f0 f1 f2).2.2⟩

set_option maxRecDepth 100000 in
theorem Update_3 (w : World) (v : Value) (xs : Ps) (a : Ac) (h : SlP w v xs) (hl : xs.length ≤ 4294967296) (h0 : bits .and .i64 a.kind 3 ≠ 0 ∧ bits .and .i64 a.kind 3 ≠ 1 ∧ bits .and .i64 a.kind 3 ≠ 2) : Calls Try.prog 44 #[v, acv a] w (SUpdRes w (drop (fdOf xs.getLast?).1 xs, fdOf xs.getLast?)) := by
  simp only [acv]
  have HH := hid0 h
  have q0 : (bits .and .i64 a.kind 3 == 0) = false := by simpa using h0.1
  have q1 : (bits .and .i64 a.kind 3 == 1) = false := by simpa using h0.2.1
  have q2 : (bits .and .i64 a.kind 3 == 2) = false := by simpa using h0.2.2
  obtain ⟨f, hf⟩ : ∃ f, f = fdOf xs.getLast? := ⟨_, rfl⟩
  rw [← hf]
  have HF := hid0 hf
  obtain ⟨f0, f1, f2⟩ := f
  clear h h0 hf
  go_enter Try.func44, Try.ntmps44
  have hU0 : Ss w w.heap.size (w.heap.size + 1) a ((w.alloc (.cells (ac a).toArray 47)).alloc (.cells #[.int .i32 0, .int .i64 0, .bool false] 31)) := ⟨((Kept.refl _ _).alloc _).alloc _, ⟨(alloc_old _ (by simp)).trans (alloc_new _ _)⟩, ⟨by have := alloc_new (w.alloc (.cells (ac a).toArray 47)) (.cells #[.int .i32 0, .int .i64 0, .bool false] 31); simpa [ac] using this⟩, by omega, by omega⟩
  have HU := hid0 hU0
  clear hU0
  go_wp2_with fail
  refine (Greatest_any _ _ xs (HH.out.ext HU.out.kept) (by omega)).mono ?_
  rintro e W1 ⟨rfl, gC⟩
  have HU1 := hid0 (HU.out.ext gC)
  clear gC
  rw [← HF.out]
  simp only [fv]
  go_wp2_with fail
  refine wp_gen (fun W => Ss w w.heap.size (w.heap.size + 1) a W ∧ FdAt W W1.heap.size (f0, f1, f2)) ⟨HU1.out.ext ((Kept.refl _ _).alloc _), ⟨alloc_new _ _⟩⟩ ?_
  rintro W ⟨hU, hL⟩
  have HU2 := hid0 (And.intro hU hL)
  have hs1 := block_lt HU1.out.res.blk
  have l0 := hL.c0
  have l1 := hL.c1
  have l2 := hL.c2
  have hK := hU.kept
  simp only at l0 l1 l2
  clear hU hL
  go_region_held3 (fun W' => W'.cell? ⟨W1.heap.size, 0, none⟩ = some (.int .i32 f0) ∧ W'.cell? ⟨W1.heap.size, 1, none⟩ = some (.int .i64 f1) ∧ W'.cell? ⟨W1.heap.size, 2, none⟩ = some (.bool f2) ∧ Kept Non w W')
    (first | exact ⟨(HU2.out.2.ext (Kept.refl _ _).drew).c0, (HU2.out.2.ext (Kept.refl _ _).drew).c1, (HU2.out.2.ext (Kept.refl _ _).drew).c2, HU2.out.1.drew.kept⟩ | exact ⟨hL3.c0, hL3.c1, hL3.c2, hU3.kept⟩ | exact ⟨(hL3.keptO (FdAt.setK (g := (f0, f1, f2))) (fun e => by have e' : W1.heap.size = w.heap.size + 1 := e; omega)).c0, (hL3.keptO (FdAt.setK (g := (f0, f1, f2))) (fun e => by have e' : W1.heap.size = w.heap.size + 1 := e; omega)).c1, (hL3.keptO (FdAt.setK (g := (f0, f1, f2))) (fun e => by have e' : W1.heap.size = w.heap.size + 1 := e; omega)).c2, (hU3.setc f0 f1 f2).2.2⟩)
    (first | (go_at_call 70; refine (Drop_any _ _ xs _ (HH.out.ext HU2.out.1.drew.kept) (by omega)).mono ?_; rintro e W3 ⟨v1, rfl, gP, gK⟩; have hU3 := HU2.out.1.drew.ext gK; have hL3 := (HU2.out.2.ext (Kept.refl _ _).drew).ext gK; obtain ⟨r0, r1, r2, rf⟩ := hU3.fdc))
  go_wp2
  refine bodyPost_ret (v := .tuple #[v1, .agg #[.int .i32 f0, .int .i64 f1, .bool f2]]) (by simp [results, Try.results44, go_sem, *]) rfl ⟨v1, rfl, hU3.own gP (block_lt HU2.out.1.drew.res.blk) f0 f1 f2, (hU3.setc f0 f1 f2).2.2⟩

theorem Update_any (w : World) (v : Value) (xs : Ps) (a : Ac) (h : SlP w v xs) (hl : xs.length ≤ 4294967296) : Calls Try.prog 44 #[v, acv a] w (SUpdRes w (upd xs a)) := by
  unfold upd
  split
  · exact Update_0 w v xs a h hl (by assumption)
  · split
    · exact Update_1 w v xs a h hl (by assumption)
    · split
      · exact Update_2 w v xs a h hl (by assumption)
      · exact Update_3 w v xs a h hl ⟨by assumption, by assumption, by assumption⟩

end Go.Proofs.Ytehegllgaiehfaa
