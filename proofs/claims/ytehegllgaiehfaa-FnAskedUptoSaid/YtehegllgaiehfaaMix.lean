/- impl.call and the function that it makes; spec.Mixed. -/
import Derived.Test.YtehegllgaiehfaaFnd
import Derived.Test.YtehegllgaiehfaaSets
namespace Go.Proofs.Ytehegllgaiehfaa
open Go.RowKit

/-- a Mix -/
structure Mx where
  no : Bool
  a : Int
  b : Int
  c : Int
  md : Int
  rs : Int
def mxv (m : Mx) : Value := .agg #[.bool m.no, .int .i64 m.a, .int .i64 m.b, .int .i64 m.c, .int .i64 m.md, .int .i64 m.rs]
structure MixAt (w : World) (cb : Nat) (m : Mx) : Prop where
  blk : w.heap[cb]? = some (.cells #[.bool m.no, .int .i64 m.a, .int .i64 m.b, .int .i64 m.c, .int .i64 m.md, .int .i64 m.rs] 24 (0, 0))
theorem MixAt.ext {w w' : World} {cb : Nat} {m : Mx} (h : MixAt w cb m) (hk : Kept Non w w') : MixAt w' cb m := ⟨(hk.block _ (block_lt h.blk) (fun h => h)).trans h.blk⟩
def mixN (m : Mx) (d e : Int) : Int := wrap64 (wrap64 (wrap64 (m.a * d) + wrap64 (m.b * e)) + m.c)
def mixV (m : Mx) : Fun2 := fun d e => if m.md ≠ 0 ∧ (mixN m d e).tmod m.md = m.rs then none else some (mixN m d e)
def dv1 (o : Option Int) : Value := match o with
  | none => .nilIface
  | some n => .iface 3 (.int .i64 n)

set_option maxRecDepth 100000 in
theorem call1_any (w : World) (cb : Nat) (m : Mx) (h : MixAt w cb m) (d e : Int) : Calls Try.prog 60 #[.iface 3 (.int .i64 d), .iface 3 (.int .i64 e), .pointer (some ⟨cb, 0, none⟩)] w (fun r w' => r = .returned (dv1 (mixV m d e)) ∧ Kept Non w w') := by
  obtain ⟨no, a, b, c, md, rs⟩ := m
  have hb := h.blk
  have c1 : w.cell? ⟨cb, 1, none⟩ = some (.int .i64 a) := by rw [cell_of hb]; rfl
  have c2 : w.cell? ⟨cb, 2, none⟩ = some (.int .i64 b) := by rw [cell_of hb]; rfl
  have c3 : w.cell? ⟨cb, 3, none⟩ = some (.int .i64 c) := by rw [cell_of hb]; rfl
  have c4 : w.cell? ⟨cb, 4, none⟩ = some (.int .i64 md) := by rw [cell_of hb]; rfl
  have c5 : w.cell? ⟨cb, 5, none⟩ = some (.int .i64 rs) := by rw [cell_of hb]; rfl
  have ha := assert_int
  clear h hb
  go_enter Try.func60, Try.ntmps60
  go_wp2_with fail
  go_region
  go_wp2_with fail
  obtain ⟨n, hn⟩ : ∃ n, n = wrap64 (wrap64 (wrap64 (a * d) + wrap64 (b * e)) + c) := ⟨_, rfl⟩
  rw [← hn]
  have HN := hid0 hn
  clear hn c1 c2 c3
  by_cases h0 : md = 0
  · have hd : (md != 0) = false := by simp [h0]
    have H0 := hid0 h0
    clear h0
    go_quiet (fail)
    go_wp2
    go_ret
    refine ⟨?_, by first | exact (Kept.refl _ w).drewN _ | exact ((Kept.refl _ w).drew).drewN _⟩
    rw [mixV, if_neg (by rw [H0.out]; simp)]
    simp only [dv1, mixN, ← HN.out]
    rfl
  · have hd : (md != 0) = true := by simp [h0]
    by_cases hr : n.tmod md = rs
    · have hr' : (n.tmod md == rs) = true := by simp [hr]
      have H0 := hid0 (And.intro h0 hr)
      clear hr
      go_quiet (fail)
      go_wp2
      go_ret
      refine ⟨?_, by first | exact (Kept.refl _ w).drewN _ | exact ((Kept.refl _ w).drew).drewN _⟩
      rw [mixV, if_pos (by simp only [mixN, ← HN.out]; exact H0.out)]
      rfl
    · have hr' : (n.tmod md == rs) = false := by simp [hr]
      have H0 := hid0 (And.intro h0 hr)
      clear hr
      go_quiet (fail)
      go_wp2
      go_ret
      refine ⟨?_, by first | exact (Kept.refl _ w).drewN _ | exact ((Kept.refl _ w).drew).drewN _⟩
      rw [mixV, if_neg (by simp only [mixN, ← HN.out]; exact fun h => H0.out.2 h.2)]
      simp only [dv1, mixN, ← HN.out]
      rfl

/-- the function of a Mix, or none -/
def opOf (m : Mx) : Option Fun2 := if m.no then none else some (mixV m)
/-- a value that is a function as a Mix tells it -/
def FnIs (w : World) (f : Value) (o : Option Fun2) : Prop := (f = .nilFunc ∧ o = none) ∨ ∃ cb m, f = .func (.func 60) #[] #[.pointer (some ⟨cb, 0, none⟩)] ∧ MixAt w cb m ∧ o = some (mixV m)
theorem FnIs.ext {w w' : World} {f : Value} {o : Option Fun2} (h : FnIs w f o) (hk : Kept Non w w') : FnIs w' f o := by
  rcases h with h | ⟨cb, m, h1, h2, h3⟩
  · exact .inl h
  · exact .inr ⟨cb, m, h1, h2.ext hk, h3⟩
def RetFn (w : World) (o : Option Fun2) (e : Ending) (w' : World) : Prop := ∃ f, e = .returned f ∧ FnIs w' f o ∧ Kept Non w w'

theorem call_any (w : World) (m : Mx) : Calls Try.prog 30 #[mxv m] w (RetFn w (opOf m)) := by
  obtain ⟨no, a, b, c, md, rs⟩ := m
  simp only [mxv, opOf]
  cases no with
  | true =>
    go_enter Try.func30, Try.ntmps30
    go_wp2
    go_ret
    exact ⟨_, rfl, .inl ⟨rfl, rfl⟩, (Kept.refl _ _).alloc _⟩
  | false =>
    go_enter Try.func30, Try.ntmps30
    go_wp2
    go_ret
    exact ⟨_, rfl, .inr ⟨w.heap.size, ⟨false, a, b, c, md, rs⟩, rfl, ⟨alloc_new _ _⟩, rfl⟩, (Kept.refl _ _).alloc _⟩

set_option maxRecDepth 100000 in
theorem Mixed_any (w : World) (m : Mx) (d e : Int) : Calls Try.prog 69 #[mxv m, .int .i64 d, .int .i64 e] w (fun r w' => r = .returned (.tuple #[.int .i64 (mixN m d e), .bool (mixV m d e).isSome]) ∧ Kept Non w w') := by
  obtain ⟨no, a, b, c, md, rs⟩ := m
  simp only [mxv]
  go_enter Try.func69, Try.ntmps69
  go_wp2_with fail
  refine wp_gen (fun W => MixAt W w.heap.size ⟨no, a, b, c, md, rs⟩ ∧ Kept Non w W) ⟨⟨alloc_new _ _⟩, (Kept.refl _ _).alloc _⟩ ?_
  rintro W ⟨hM, hK⟩
  have hb := hM.blk
  have c4 : W.cell? ⟨w.heap.size, 4, none⟩ = some (.int .i64 md) := by rw [cell_of hb]; rfl
  have c5 : W.cell? ⟨w.heap.size, 5, none⟩ = some (.int .i64 rs) := by rw [cell_of hb]; rfl
  have HK := hid0 hK
  clear hM hK hb
  obtain ⟨n, hn⟩ : ∃ n, n = wrap64 (wrap64 (wrap64 (a * d) + wrap64 (b * e)) + c) := ⟨_, rfl⟩
  rw [← hn]
  have HN := hid0 hn
  clear hn
  by_cases h0 : md = 0
  · have hd : (md == 0) = true := by simp [h0]
    have H0 := hid0 h0
    clear h0
    go_quiet (fail)
    go_wp2
    go_ret2
    refine ⟨?_, HK.out.drewN _⟩
    rw [mixV, if_neg (by rw [H0.out]; simp)]
    simp only [mixN, ← HN.out]
    rfl
  · have hd : (md == 0) = false := by simp [h0]
    by_cases hr : n.tmod md = rs
    · have hr' : (n.tmod md != rs) = false := by simp [hr]
      have H0 := hid0 (And.intro h0 hr)
      clear hr
      go_quiet (fail)
      go_wp2
      go_ret2
      refine ⟨?_, HK.out.drewN _⟩
      rw [mixV, if_pos (by simp only [mixN, ← HN.out]; exact H0.out)]
      simp only [mixN, ← HN.out]
      rfl
    · have hr' : (n.tmod md != rs) = true := by simp [hr]
      have H0 := hid0 (And.intro h0 hr)
      clear hr
      go_quiet (fail)
      go_wp2
      go_ret2
      refine ⟨?_, HK.out.drewN _⟩
      rw [mixV, if_neg (by simp only [mixN, ← HN.out]; exact fun h => H0.out.2 h.2)]
      simp only [mixN, ← HN.out]
      rfl

end Go.Proofs.Ytehegllgaiehfaa
