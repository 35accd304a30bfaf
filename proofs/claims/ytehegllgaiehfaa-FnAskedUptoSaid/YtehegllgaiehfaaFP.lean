/- A Found and pairs, as they are returned together. -/
import Derived.Test.YtehegllgaiehfaaSame
import Derived.Test.YtehegllgaiehfaaImpl2
namespace Go.Proofs.Ytehegllgaiehfaa
open Go.RowKit

/-- a Found and a slice of pairs of the call's own -/
def RetFP (w : World) (f : Fd) (xs : List (Int × Int)) (e : Ending) (w' : World) : Prop := ∃ v, e = .returned (.tuple #[fv f, v]) ∧ OwnP w.heap.size w' v xs ∧ Kept Non w w'

/-- what a region that draws its order may lean on: a Found's cells, and that elder blocks have not turned -/
theorem held_fd {W W' W'' : World} {b : Nat} {f : Fd} (h0 : FdAt W b f) (h : Kept Non W W') (h' : Kept Non W' W'') :
    W''.cell? ⟨b, 0, none⟩ = some (.int .i32 f.1) ∧ W''.cell? ⟨b, 1, none⟩ = some (.int .i64 f.2.1) ∧ W''.cell? ⟨b, 2, none⟩ = some (.bool f.2.2) ∧ Kept Non W W'' :=
  ⟨(h0.ext (h.trans h')).c0, (h0.ext (h.trans h')).c1, (h0.ext (h.trans h')).c2, h.trans h'⟩

/-- what a region leans on that loads a Found, asks a tree for its pairs, and stores the Found as a result -/
structure Side (W : World) (c3 c b : Nat) (f : Fd) (ys : List (Int × Int)) (W' : World) : Prop where
  fd : FdAt W' c3 f
  kept : Kept (One c) W W'
  head : Head W' b ys
  res : ∃ g, FdAt W' c g
theorem Side.all {W W' : World} {c3 c b : Nat} {f : Fd} {ys : List (Int × Int)} (h : Side W c3 c b f ys W') :
    W'.cell? ⟨c3, 0, none⟩ = some (.int .i32 f.1) ∧ W'.cell? ⟨c3, 1, none⟩ = some (.int .i64 f.2.1) ∧ W'.cell? ⟨c3, 2, none⟩ = some (.bool f.2.2) ∧ Side W c3 c b f ys W' := ⟨h.fd.c0, h.fd.c1, h.fd.c2, h⟩
theorem Side.ext {W W' W'' : World} {c3 c b : Nat} {f : Fd} {ys : List (Int × Int)} (h : Side W c3 c b f ys W') (hk : Kept Non W' W'') : Side W c3 c b f ys W'' := by
  obtain ⟨h1, h2, h3, g, h4⟩ := h
  exact ⟨h1.ext hk, h2.trans hk.one, h3.ext hk, ⟨g, h4.ext hk⟩⟩
theorem FdAt.not_blk {w : World} {c : Nat} {f : Fd} (hc : FdAt w c f) {T : Tr} (hi : In w T) : ¬ Blk c T := fun hB => by
  obtain ⟨l, r, d, k, h, ho⟩ := hi.obj hB
  rw [hc.blk] at ho
  simp [nodeObj] at ho
theorem Side.set {W W' : World} {c3 c b : Nat} {f : Fd} {ys : List (Int × Int)} (h : Side W c3 c b f ys W') (hn : c3 ≠ c) (hb : b ≠ c) (g : Fd) :
    Side W c3 c b f ys (((W'.setCell ⟨c, 0, none⟩ (.int .i32 g.1)).setCell ⟨c, 1, none⟩ (.int .i64 g.2.1)).setCell ⟨c, 2, none⟩ (.bool g.2.2)) := by
  obtain ⟨h1, h2, h3, g0, h4⟩ := h
  refine ⟨((h1.other hn).other hn).other hn, ((h2.setOne _ _).setOne _ _).setOne _ _, ?_, ⟨g, h4.set⟩⟩
  obtain ⟨T, t1, t2⟩ := h3.ex
  have hk : Kept (One c) W' (((W'.setCell ⟨c, 0, none⟩ (.int .i32 g.1)).setCell ⟨c, 1, none⟩ (.int .i64 g.2.1)).setCell ⟨c, 2, none⟩ (.bool g.2.2)) := (((Kept.refl _ _).setOne _ _).setOne _ _).setOne _ _
  exact ⟨T, (hk.block b (block_lt t1) hb).trans t1, t2.kept hk (fun x hx e => by have e' : x = c := e; subst e'; exact h4.not_blk t2.inn hx)⟩
theorem pairs_side {W W' : World} {c3 c b : Nat} {f : Fd} {ys : List (Int × Int)} (h : Side W c3 c b f ys W') : Calls Try.prog 31 #[.pointer (some ⟨b, 0, none⟩)] W' (fun e w4 => ∃ v4, e = .returned v4 ∧ OwnP W'.heap.size w4 v4 ys ∧ Kept Non W' w4 ∧
    ∃ g : Fd, w4.cell? ⟨c, 0, none⟩ = some (.int .i32 g.1) ∧ w4.cell? ⟨c, 1, none⟩ = some (.int .i64 g.2.1) ∧ w4.cell? ⟨c, 2, none⟩ = some (.bool g.2.2) ∧ ∀ i, w4.frozen? ⟨c, i, none⟩ = false) :=
  (pairs_any _ b 0 _ h.head.at).mono fun e w4 ⟨v4, he, g1, g2⟩ => by
    obtain ⟨g, hg⟩ := (h.ext g2).res
    exact ⟨v4, he, g1, g2, g, hg.c0, hg.c1, hg.c2, hg.fz⟩
theorem field0_fd (a b : Int) (p : Bool) (w : World) : (Instr.field 31 (.agg #[.int .i32 a, .int .i64 b, .bool p]) 0).run Try.prog w = .ok (.int .i32 a) w := by kernel_rfl
theorem field1_fd (a b : Int) (p : Bool) (w : World) : (Instr.field 31 (.agg #[.int .i32 a, .int .i64 b, .bool p]) 1).run Try.prog w = .ok (.int .i64 b) w := by kernel_rfl
theorem field2_fd (a b : Int) (p : Bool) (w : World) : (Instr.field 31 (.agg #[.int .i32 a, .int .i64 b, .bool p]) 2).run Try.prog w = .ok (.bool p) w := by kernel_rfl

end Go.Proofs.Ytehegllgaiehfaa
