/- Answers: spec.Ask, spec.Empty, impl.answers, impl.Empty. -/
import Derived.Test.YtehegllgaiehfaaImpl2
namespace Go.Proofs.Ytehegllgaiehfaa
open Go.RowKit

/-- what a tree tells at a key -/
structure An where
  f0 : Fd
  f1 : Fd
  f2 : Fd
  f3 : Fd
  f4 : Fd
  f5 : Fd
  f6 : Fd
  n : Int
  e : Bool
  s : Bool
def anC (a : An) : Array Value := #[.int .i32 a.f0.1, .int .i64 a.f0.2.1, .bool a.f0.2.2, .int .i32 a.f1.1, .int .i64 a.f1.2.1, .bool a.f1.2.2, .int .i32 a.f2.1, .int .i64 a.f2.2.1, .bool a.f2.2.2, .int .i32 a.f3.1, .int .i64 a.f3.2.1, .bool a.f3.2.2, .int .i32 a.f4.1, .int .i64 a.f4.2.1, .bool a.f4.2.2, .int .i32 a.f5.1, .int .i64 a.f5.2.1, .bool a.f5.2.2, .int .i32 a.f6.1, .int .i64 a.f6.2.1, .bool a.f6.2.2, .int .i64 a.n, .bool a.e, .bool a.s]
def anV (a : An) : Value := .agg #[.int .i32 a.f0.1, .int .i64 a.f0.2.1, .bool a.f0.2.2, .int .i32 a.f1.1, .int .i64 a.f1.2.1, .bool a.f1.2.2, .int .i32 a.f2.1, .int .i64 a.f2.2.1, .bool a.f2.2.2, .int .i32 a.f3.1, .int .i64 a.f3.2.1, .bool a.f3.2.2, .int .i32 a.f4.1, .int .i64 a.f4.2.1, .bool a.f4.2.2, .int .i32 a.f5.1, .int .i64 a.f5.2.1, .bool a.f5.2.2, .int .i32 a.f6.1, .int .i64 a.f6.2.1, .bool a.f6.2.2, .int .i64 a.n, .bool a.e, .bool a.s]
def ask (x : Int) (ps : List (Int × Int)) : An := ⟨fdAt x (findP x ps), fdOf (glbP x false ps), fdOf (glbP x true ps), fdOf (lubP x false ps), fdOf (lubP x true ps), fdOf ps.head?, fdOf ps.getLast?, ps.length, ((ps.length : Int) == 0), ((ps.length : Int) == 1)⟩
def RetA (w : World) (a : An) (e : Ending) (w' : World) : Prop := e = .returned (anV a) ∧ Kept Non w w'

theorem Kept.setRow {S : Nat → Prop} {a w : World} (h : Kept S a w) (b : Nat) (hb : a.heap.size ≤ b) (cs : Array Value) : Kept S a (w.setRow b cs) :=
  ⟨h.os, h.tape, h.output, by rw [setRow_size]; exact h.size, fun k hk hs => by rw [setRow_other _ _ _ _ (by omega)]; exact h.block k hk hs⟩
theorem anC_one (a : An) : (anC a).all (·.oneCell') = true := by simp [anC, Value.oneCell']
def isRow (P : Program) (t : TypeId) : Bool := match P.underlying t with
  | some (.struct _) => true
  | some (.array _ _) => true
  | _ => false
theorem results_row {P : Program} {fn : Func} {p : Tmp} {ty : TypeId} (h : fn.results = #[.cell p ty]) (tmps : Array Value) (w : World) (g : Nat) (t : TypeId) (cs : Array Value) (fr : Nat × Nat)
    (hp : tmps.getD p undef = .pointer (some ⟨g, 0, none⟩)) (hg : w.heap[g]? = some (.cells cs t fr)) (hr : isRow P ty = true) (hi : (P.info? ty).map (·.size) = some cs.size) :
    (results fn tmps).run P w = .ok (.agg cs) w := by
  unfold isRow at hr
  cases hq : P.underlying ty with
  | none => rw [hq] at hr; cases hr
  | some d => rw [hq] at hr; cases d <;> first | exact results_cell_row h tmps w g t cs fr _ hp hg hq rfl hi | cases hr
/-- the cells of an Answers that the call itself made -/
structure AnAt (w : World) (b : Nat) (a : An) : Prop where
  blk : w.heap[b]? = some (.cells (anC a) 52 (0, 0))
theorem AnAt.fz {w : World} {b : Nat} {a : An} (h : AnAt w b a) (i : Nat) : w.frozen? ⟨b, i, none⟩ = false := frozen_of h.blk i
theorem AnAt.ext {w w' : World} {b : Nat} {a : An} (h : AnAt w b a) (hk : Kept Non w w') : AnAt w' b a := ⟨(hk.block b (block_lt h.blk) (fun h => h)).trans h.blk⟩
theorem AnAt.all {w : World} {b : Nat} {a : An} (h : AnAt w b a) : w.cell? ⟨b, 0, none⟩ = some (.int .i32 a.f0.1) ∧ w.cell? ⟨b, 1, none⟩ = some (.int .i64 a.f0.2.1) ∧ w.cell? ⟨b, 2, none⟩ = some (.bool a.f0.2.2) ∧ w.cell? ⟨b, 3, none⟩ = some (.int .i32 a.f1.1) ∧ w.cell? ⟨b, 4, none⟩ = some (.int .i64 a.f1.2.1) ∧ w.cell? ⟨b, 5, none⟩ = some (.bool a.f1.2.2) ∧ w.cell? ⟨b, 6, none⟩ = some (.int .i32 a.f2.1) ∧ w.cell? ⟨b, 7, none⟩ = some (.int .i64 a.f2.2.1) ∧ w.cell? ⟨b, 8, none⟩ = some (.bool a.f2.2.2) ∧ w.cell? ⟨b, 9, none⟩ = some (.int .i32 a.f3.1) ∧ w.cell? ⟨b, 10, none⟩ = some (.int .i64 a.f3.2.1) ∧ w.cell? ⟨b, 11, none⟩ = some (.bool a.f3.2.2) ∧ w.cell? ⟨b, 12, none⟩ = some (.int .i32 a.f4.1) ∧ w.cell? ⟨b, 13, none⟩ = some (.int .i64 a.f4.2.1) ∧ w.cell? ⟨b, 14, none⟩ = some (.bool a.f4.2.2) ∧ w.cell? ⟨b, 15, none⟩ = some (.int .i32 a.f5.1) ∧ w.cell? ⟨b, 16, none⟩ = some (.int .i64 a.f5.2.1) ∧ w.cell? ⟨b, 17, none⟩ = some (.bool a.f5.2.2) ∧ w.cell? ⟨b, 18, none⟩ = some (.int .i32 a.f6.1) ∧ w.cell? ⟨b, 19, none⟩ = some (.int .i64 a.f6.2.1) ∧ w.cell? ⟨b, 20, none⟩ = some (.bool a.f6.2.2) ∧ w.cell? ⟨b, 21, none⟩ = some (.int .i64 a.n) ∧ w.cell? ⟨b, 22, none⟩ = some (.bool a.e) ∧ w.cell? ⟨b, 23, none⟩ = some (.bool a.s) := by
  refine ⟨?_, ?_, ?_, ?_, ?_, ?_, ?_, ?_, ?_, ?_, ?_, ?_, ?_, ?_, ?_, ?_, ?_, ?_, ?_, ?_, ?_, ?_, ?_, ?_⟩ <;> (rw [cell_of h.blk]; rfl)

set_option maxRecDepth 100000 in
theorem Ask_any (w : World) (v : Value) (ps : List (Int × Int)) (x : Int) (h : SlP w v ps) (hl : ps.length ≤ 8796093022208) :
    Calls Try.prog 27 #[v, .int .i32 x] w (RetA w (ask x ps)) := by
  obtain ⟨f0, hf0⟩ : ∃ f, f = fdAt x (findP x ps) := ⟨_, rfl⟩
  obtain ⟨f1, hf1⟩ : ∃ f, f = fdOf (glbP x false ps) := ⟨_, rfl⟩
  obtain ⟨f2, hf2⟩ : ∃ f, f = fdOf (glbP x true ps) := ⟨_, rfl⟩
  obtain ⟨f3, hf3⟩ : ∃ f, f = fdOf (lubP x false ps) := ⟨_, rfl⟩
  obtain ⟨f4, hf4⟩ : ∃ f, f = fdOf (lubP x true ps) := ⟨_, rfl⟩
  obtain ⟨f5, hf5⟩ : ∃ f, f = fdOf ps.head? := ⟨_, rfl⟩
  obtain ⟨f6, hf6⟩ : ∃ f, f = fdOf ps.getLast? := ⟨_, rfl⟩
  have HA : Hid (ask x ps = ⟨f0, f1, f2, f3, f4, f5, f6, ps.length, ((ps.length : Int) == 0), ((ps.length : Int) == 1)⟩) := by
    show _ = _
    rw [hf0, hf1, hf2, hf3, hf4, hf5, hf6]; rfl
  rw [HA.out]
  have HF := hid (And.intro hf0 (And.intro hf1 (And.intro hf2 (And.intro hf3 (And.intro hf4 (And.intro hf5 hf6))))))
  clear hf0 hf1 hf2 hf3 hf4 hf5 hf6
  obtain ⟨a, cap, rfl⟩ := h.form
  have HS := hid h
  clear h
  go_enter Try.func27, Try.ntmps27
  go_wp2_with fail
  refine (At_any _ _ ps x (HS.out.ext ((Kept.refl _ _).alloc _)) hl).mono ?_
  rintro e W1 ⟨rfl, g⟩
  have HG1 := hid (And.intro (((Kept.refl _ w).alloc _).trans g) (AnAt.ext (a := ⟨(0, 0, false), (0, 0, false), (0, 0, false), (0, 0, false), (0, 0, false), (0, 0, false), (0, 0, false), 0, false, false⟩) ⟨alloc_new w _⟩ g))
  rw [← HF.out.1]
  clear g
  simp only [fv]
  go_wp2_with fail
  refine (Below_any _ _ ps x false (HS.out.ext HG1.out.1) hl).mono ?_
  rintro e W2 ⟨rfl, g⟩
  have HG2 := hid (And.intro (HG1.out.1.trans g) (HG1.out.2.ext g))
  rw [← HF.out.2.1]
  clear g HG1
  simp only [fv]
  go_wp2_with fail
  refine (Below_any _ _ ps x true (HS.out.ext HG2.out.1) hl).mono ?_
  rintro e W3 ⟨rfl, g⟩
  have HG3 := hid (And.intro (HG2.out.1.trans g) (HG2.out.2.ext g))
  rw [← HF.out.2.2.1]
  clear g HG2
  simp only [fv]
  go_wp2_with fail
  refine (Above_any _ _ ps x false (HS.out.ext HG3.out.1) hl).mono ?_
  rintro e W4 ⟨rfl, g⟩
  have HG4 := hid (And.intro (HG3.out.1.trans g) (HG3.out.2.ext g))
  rw [← HF.out.2.2.2.1]
  clear g HG3
  simp only [fv]
  go_wp2_with fail
  refine (Above_any _ _ ps x true (HS.out.ext HG4.out.1) hl).mono ?_
  rintro e W5 ⟨rfl, g⟩
  have HG5 := hid (And.intro (HG4.out.1.trans g) (HG4.out.2.ext g))
  rw [← HF.out.2.2.2.2.1]
  clear g HG4
  simp only [fv]
  go_wp2_with fail
  refine (Least_any _ _ ps (HS.out.ext HG5.out.1)).mono ?_
  rintro e W6 ⟨rfl, g⟩
  have HG6 := hid (And.intro (HG5.out.1.trans g) (HG5.out.2.ext g))
  rw [← HF.out.2.2.2.2.2.1]
  clear g HG5
  simp only [fv]
  go_wp2_with fail
  refine (Greatest_any _ _ ps (HS.out.ext HG6.out.1) hl).mono ?_
  rintro e W7 ⟨rfl, g⟩
  have HG7 := hid (And.intro (HG6.out.1.trans g) (HG6.out.2.ext g))
  rw [← HF.out.2.2.2.2.2.2]
  clear g HG6
  simp only [fv]
  go_wp2_with (refine wpList_store_row rfl 52 (.tmp 4) (.tmp 32) rfl w.heap.size (anC (⟨f0, f1, f2, f3, f4, f5, f6, ps.length, ((ps.length : Int) == 0), ((ps.length : Int) == 1)⟩ : An)) rfl rfl _ _ HG7.out.2.blk (by kernel_rfl) rfl (anC_one _) ?_)
  go_wp2
  refine bodyPost_ret (v := .agg (anC (⟨f0, f1, f2, f3, f4, f5, f6, ps.length, ((ps.length : Int) == 0), ((ps.length : Int) == 1)⟩ : An))) ?_ rfl ⟨rfl, ?_⟩
  · exact results_row (ty := 52) rfl _ _ w.heap.size _ (anC (⟨f0, f1, f2, f3, f4, f5, f6, ps.length, ((ps.length : Int) == 0), ((ps.length : Int) == 1)⟩ : An)) _ rfl (setRow_heap _ _ _ _ _ _ HG7.out.2.blk) (by kernel_rfl) (by kernel_rfl)
  exact HG7.out.1.setRow _ (Nat.le_refl _) _

theorem TreeAt.ext {w w' : World} {b o : Nat} {xs : List (Int × Int)} (h : TreeAt w b o xs) (hk : Kept Non w w') : TreeAt w' b o xs := by
  obtain ⟨T, h0, h1, hg⟩ := h.ex
  have hlt : b < w.heap.size := by
    rcases Nat.lt_or_ge b w.heap.size with hl | hl
    · exact hl
    · simp [World.cell?, hl] at h0
  have hb := hk.block b hlt (fun h => h)
  exact ⟨T, by rw [← h0]; simp [World.cell?, hb], by rw [← h1]; simp [World.cell?, hb], hg.ext hk⟩
theorem isEmpty_int (ps : List (Int × Int)) : ps.isEmpty = ((ps.length : Int) == 0) := by cases ps <;> simp <;> omega
theorem isSingle_int (ps : List (Int × Int)) : decide (ps.length = 1) = ((ps.length : Int) == 1) := by
  by_cases h : ps.length = 1
  · simp [h]
  · have : ¬ ((ps.length : Int) = 1) := by omega
    simp [h, this]
set_option maxRecDepth 100000 in
theorem answers_any (w : World) (b o : Nat) (ps : List (Int × Int)) (x : Int) (h : TreeAt w b o ps) :
    Calls Try.prog 47 #[.pointer (some ⟨b, o, none⟩), .int .i32 x] w (RetA w (ask x ps)) := by
  obtain ⟨f0, hf0⟩ : ∃ f, f = fdAt x (findP x ps) := ⟨_, rfl⟩
  obtain ⟨f1, hf1⟩ : ∃ f, f = fdOf (glbP x false ps) := ⟨_, rfl⟩
  obtain ⟨f2, hf2⟩ : ∃ f, f = fdOf (glbP x true ps) := ⟨_, rfl⟩
  obtain ⟨f3, hf3⟩ : ∃ f, f = fdOf (lubP x false ps) := ⟨_, rfl⟩
  obtain ⟨f4, hf4⟩ : ∃ f, f = fdOf (lubP x true ps) := ⟨_, rfl⟩
  obtain ⟨f5, hf5⟩ : ∃ f, f = fdOf ps.head? := ⟨_, rfl⟩
  obtain ⟨f6, hf6⟩ : ∃ f, f = fdOf ps.getLast? := ⟨_, rfl⟩
  have HA : Hid (ask x ps = ⟨f0, f1, f2, f3, f4, f5, f6, ps.length, ((ps.length : Int) == 0), ((ps.length : Int) == 1)⟩) := by
    show _ = _
    rw [hf0, hf1, hf2, hf3, hf4, hf5, hf6]; rfl
  rw [HA.out]
  have HF := hid (And.intro hf0 (And.intro hf1 (And.intro hf2 (And.intro hf3 (And.intro hf4 (And.intro hf5 hf6))))))
  clear hf0 hf1 hf2 hf3 hf4 hf5 hf6
  have HS := hid (fun W (hk : Kept Non w W) => h.ext hk)
  clear h
  go_enter Try.func47, Try.ntmps47
  go_wp2_with fail
  refine (TFind_any _ b o ps x (HS.out _ ((Kept.refl _ _).alloc _))).mono ?_
  rintro e w' ⟨rfl, rfl⟩
  obtain ⟨d, hd⟩ : ∃ d, d = dv (findP x ps) := ⟨_, rfl⟩
  have HD := hid hd
  rw [← hd]
  clear hd
  go_wp2_with fail
  rw [HD.out]
  refine (found_at _ x _).mono ?_
  rintro e W1 ⟨rfl, g⟩
  have HG1 := hid (And.intro (((Kept.refl _ w).alloc _).trans g) (AnAt.ext (a := ⟨(0, 0, false), (0, 0, false), (0, 0, false), (0, 0, false), (0, 0, false), (0, 0, false), (0, 0, false), 0, false, false⟩) ⟨alloc_new w _⟩ g))
  rw [← HF.out.1]
  clear g HD
  simp only [fv]
  go_wp2_with fail
  refine (TGlb_any _ b o ps x (HS.out _ HG1.out.1)).mono ?_
  rintro e w' ⟨rfl, rfl⟩
  obtain ⟨k, d, hkd, hc⟩ := found_kd W1 (glbP x false ps)
  rw [hkd]
  have HC := hid hc
  clear hc hkd
  go_wp2_with fail
  refine HC.out.mono ?_
  rintro e W2 ⟨rfl, g⟩
  have HG2 := hid (And.intro (HG1.out.1.trans g) (HG1.out.2.ext g))
  rw [← HF.out.2.1]
  clear g HG1 HC
  simp only [fv]
  go_wp2_with fail
  refine (TGlbEq_any _ b o ps x (HS.out _ HG2.out.1)).mono ?_
  rintro e w' ⟨rfl, rfl⟩
  obtain ⟨k, d, hkd, hc⟩ := found_kd W2 (glbP x true ps)
  rw [hkd]
  have HC := hid hc
  clear hc hkd
  go_wp2_with fail
  refine HC.out.mono ?_
  rintro e W3 ⟨rfl, g⟩
  have HG3 := hid (And.intro (HG2.out.1.trans g) (HG2.out.2.ext g))
  rw [← HF.out.2.2.1]
  clear g HG2 HC
  simp only [fv]
  go_wp2_with fail
  refine (TLub_any _ b o ps x (HS.out _ HG3.out.1)).mono ?_
  rintro e w' ⟨rfl, rfl⟩
  obtain ⟨k, d, hkd, hc⟩ := found_kd W3 (lubP x false ps)
  rw [hkd]
  have HC := hid hc
  clear hc hkd
  go_wp2_with fail
  refine HC.out.mono ?_
  rintro e W4 ⟨rfl, g⟩
  have HG4 := hid (And.intro (HG3.out.1.trans g) (HG3.out.2.ext g))
  rw [← HF.out.2.2.2.1]
  clear g HG3 HC
  simp only [fv]
  go_wp2_with fail
  refine (TLubEq_any _ b o ps x (HS.out _ HG4.out.1)).mono ?_
  rintro e w' ⟨rfl, rfl⟩
  obtain ⟨k, d, hkd, hc⟩ := found_kd W4 (lubP x true ps)
  rw [hkd]
  have HC := hid hc
  clear hc hkd
  go_wp2_with fail
  refine HC.out.mono ?_
  rintro e W5 ⟨rfl, g⟩
  have HG5 := hid (And.intro (HG4.out.1.trans g) (HG4.out.2.ext g))
  rw [← HF.out.2.2.2.2.1]
  clear g HG4 HC
  simp only [fv]
  go_wp2_with fail
  refine (TMin_any _ b o ps (HS.out _ HG5.out.1)).mono ?_
  rintro e w' ⟨rfl, rfl⟩
  obtain ⟨k, d, hkd, hc⟩ := found_kd W5 (ps.head?)
  rw [hkd]
  have HC := hid hc
  clear hc hkd
  go_wp2_with fail
  refine HC.out.mono ?_
  rintro e W6 ⟨rfl, g⟩
  have HG6 := hid (And.intro (HG5.out.1.trans g) (HG5.out.2.ext g))
  rw [← HF.out.2.2.2.2.2.1]
  clear g HG5 HC
  simp only [fv]
  go_wp2_with fail
  refine (TMax_any _ b o ps (HS.out _ HG6.out.1)).mono ?_
  rintro e w' ⟨rfl, rfl⟩
  obtain ⟨k, d, hkd, hc⟩ := found_kd W6 (ps.getLast?)
  rw [hkd]
  have HC := hid hc
  clear hc hkd
  go_wp2_with fail
  refine HC.out.mono ?_
  rintro e W7 ⟨rfl, g⟩
  have HG7 := hid (And.intro (HG6.out.1.trans g) (HG6.out.2.ext g))
  rw [← HF.out.2.2.2.2.2.2]
  clear g HG6 HC
  simp only [fv]
  go_wp2_with fail
  refine (TSize_any _ b o ps (HS.out _ HG7.out.1)).mono ?_
  rintro e w' ⟨rfl, rfl⟩
  go_wp2_with fail
  refine (TIsEmpty_any _ b o ps (HS.out _ HG7.out.1)).mono ?_
  rintro e w' ⟨rfl, rfl⟩
  rw [isEmpty_int]
  go_wp2_with fail
  refine (TIsSingle_any _ b o ps (HS.out _ HG7.out.1)).mono ?_
  rintro e w' ⟨rfl, rfl⟩
  rw [isSingle_int]
  go_wp2_with (refine wpList_store_row rfl 52 (.tmp 4) (.tmp 50) rfl w.heap.size (anC (⟨f0, f1, f2, f3, f4, f5, f6, ps.length, ((ps.length : Int) == 0), ((ps.length : Int) == 1)⟩ : An)) rfl rfl _ _ HG7.out.2.blk (by kernel_rfl) rfl (anC_one _) ?_)
  go_wp2
  refine bodyPost_ret (v := .agg (anC (⟨f0, f1, f2, f3, f4, f5, f6, ps.length, ((ps.length : Int) == 0), ((ps.length : Int) == 1)⟩ : An))) ?_ rfl ⟨rfl, ?_⟩
  · exact results_row (ty := 52) rfl _ _ w.heap.size _ (anC (⟨f0, f1, f2, f3, f4, f5, f6, ps.length, ((ps.length : Int) == 0), ((ps.length : Int) == 1)⟩ : An)) _ rfl (setRow_heap _ _ _ _ _ _ HG7.out.2.blk) (by kernel_rfl) (by kernel_rfl)
  exact HG7.out.1.setRow _ (Nat.le_refl _) _

end Go.Proofs.Ytehegllgaiehfaa
