/- Acts: how they lie in memory, numbers as indices. -/
import Derived.Test.YtehegllgaiehfaaWk
import Derived.Test.YtehegllgaiehfaaDrop
import Derived.Test.YtehegllgaiehfaaUni
import Derived.Test.YtehegllgaiehfaaSpec
import Derived.Test.YtehegllgaiehfaaSame
namespace Go.Proofs.Ytehegllgaiehfaa
open Go.RowKit

/-- an Act -/
structure Ac where
  kind : Int
  of : Int
  wit : Int
  key : Int
  data : Int
  mix : Mx
def ac (a : Ac) : List Value := [.int .i64 a.kind, .int .i64 a.of, .int .i64 a.wit, .int .i32 a.key, .int .i64 a.data, .bool a.mix.no, .int .i64 a.mix.a, .int .i64 a.mix.b, .int .i64 a.mix.c, .int .i64 a.mix.md, .int .i64 a.mix.rs]
def acv (a : Ac) : Value := .agg #[.int .i64 a.kind, .int .i64 a.of, .int .i64 a.wit, .int .i32 a.key, .int .i64 a.data, .bool a.mix.no, .int .i64 a.mix.a, .int .i64 a.mix.b, .int .i64 a.mix.c, .int .i64 a.mix.md, .int .i64 a.mix.rs]
abbrev SlA := @Sl Ac 11 ac
structure AcAt (w : World) (b o : Nat) (a : Ac) : Prop where
  c0 : w.cell? ⟨b, o, none⟩ = some (.int .i64 a.kind)
  c1 : w.cell? ⟨b, o + 1, none⟩ = some (.int .i64 a.of)
  c2 : w.cell? ⟨b, o + 2, none⟩ = some (.int .i64 a.wit)
  c3 : w.cell? ⟨b, o + 3, none⟩ = some (.int .i32 a.key)
  c4 : w.cell? ⟨b, o + 4, none⟩ = some (.int .i64 a.data)
  c5 : w.cell? ⟨b, o + 5, none⟩ = some (.bool a.mix.no)
  c6 : w.cell? ⟨b, o + 6, none⟩ = some (.int .i64 a.mix.a)
  c7 : w.cell? ⟨b, o + 7, none⟩ = some (.int .i64 a.mix.b)
  c8 : w.cell? ⟨b, o + 8, none⟩ = some (.int .i64 a.mix.c)
  c9 : w.cell? ⟨b, o + 9, none⟩ = some (.int .i64 a.mix.md)
  c10 : w.cell? ⟨b, o + 10, none⟩ = some (.int .i64 a.mix.rs)
theorem Sl.act {w w' : World} {a : Option Addr} {n cap : Nat} {ps : List Ac} (h : SlA w (.slice a n cap) ps) (hk : Kept Non w w') (k : Nat) (hlt : k < ps.length) :
    ∃ b off, a = some ⟨b, off, none⟩ ∧ b < w.heap.size ∧ AcAt w' b (off + k * 11) ps[k] := by
  obtain ⟨b, off, ha, hb, hc⟩ := h.cells hk k hlt
  exact ⟨b, off, ha, hb, hc 0 _ rfl, hc 1 _ rfl, hc 2 _ rfl, hc 3 _ rfl, hc 4 _ rfl, hc 5 _ rfl, hc 6 _ rfl, hc 7 _ rfl, hc 8 _ rfl, hc 9 _ rfl, hc 10 _ rfl⟩
/-- an Act's own block -/
structure AcB (w : World) (b : Nat) (a : Ac) : Prop where
  blk : w.heap[b]? = some (.cells (ac a).toArray 47 (0, 0))
theorem AcB.ext {w w' : World} {b : Nat} {a : Ac} (h : AcB w b a) (hk : Kept Non w w') : AcB w' b a := ⟨(hk.block _ (block_lt h.blk) (fun h => h)).trans h.blk⟩
theorem AcB.at {w : World} {b : Nat} {a : Ac} (h : AcB w b a) : AcAt w b 0 a :=
  ⟨by rw [cell_of h.blk]; rfl, by rw [cell_of h.blk]; rfl, by rw [cell_of h.blk]; rfl, by rw [cell_of h.blk]; rfl, by rw [cell_of h.blk]; rfl, by rw [cell_of h.blk]; rfl, by rw [cell_of h.blk]; rfl, by rw [cell_of h.blk]; rfl, by rw [cell_of h.blk]; rfl, by rw [cell_of h.blk]; rfl, by rw [cell_of h.blk]; rfl⟩

/-- the capacity is not less than the length -/
def CapOk (v : Value) : Prop := ∀ a n c, v = .slice a n c → n ≤ c
/-- a number as an index -/
def idx (n : Int) (c : Nat) : Nat := (n % (c : Int)).toNat
theorem tmod_cases (n : Int) (c : Nat) (hc : 0 < c) : (0 ≤ n.tmod c ∧ n % (c : Int) = n.tmod c ∧ n.tmod c < c) ∨ (n.tmod c < 0 ∧ n % (c : Int) = n.tmod c + c ∧ -(c : Int) < n.tmod c) := by
  have hcp : (0 : Int) < (c : Int) := by omega
  have h1 := Int.tmod_lt_of_pos n hcp
  have h2 : -(c : Int) < n.tmod c := by
    have := Int.tmod_lt_of_pos (-n) hcp
    rw [Int.neg_tmod] at this
    omega
  have h3 : n % (c : Int) = (n.tmod c) % (c : Int) := by
    have h4 := Int.tmod_add_mul_tdiv n c
    have h5 : (n.tmod c + (c : Int) * n.tdiv c) % (c : Int) = n.tmod c % (c : Int) := Int.add_mul_emod_self_left ..
    rw [h4] at h5
    exact h5
  by_cases h0 : 0 ≤ n.tmod c
  · exact .inl ⟨h0, by rw [h3, Int.emod_eq_of_lt h0 h1], h1⟩
  · refine .inr ⟨by omega, ?_, h2⟩
    rw [h3, ← Int.add_emod_right, Int.emod_eq_of_lt (by omega) (by omega)]
theorem idx_lt (n : Int) (c : Nat) (hc : 0 < c) : idx n c < c := by
  have := Int.emod_lt_of_pos n (show (0 : Int) < c by omega)
  have h2 := Int.emod_nonneg n (show (c : Int) ≠ 0 by omega)
  unfold idx; omega
theorem idx_int (n : Int) (c : Nat) (hc : 0 < c) : ((idx n c : Nat) : Int) = n % (c : Int) := by
  have h2 := Int.emod_nonneg n (show (c : Int) ≠ 0 by omega)
  unfold idx; omega

theorem SIndex_any (w : World) (n : Int) (c : Nat) (hc : 0 < c) (hl : c ≤ 8796093022208) :
    Calls Try.prog 40 #[.int .i64 n, .int .i64 c] w fun e w' => e = .returned (.int .i64 (idx n c)) ∧ w' = w := by
  rw [idx_int n c hc]
  have hz : (c : Int) ≠ 0 := by omega
  rcases tmod_cases n c hc with ⟨h1, h2, h3⟩ | ⟨h1, h2, h3⟩
  · rw [h2]
    go_enter Try.func40, Try.ntmps40
    go_wp2
    go_ret
    exact ⟨rfl, rfl⟩
  · rw [h2]
    go_enter Try.func40, Try.ntmps40
    go_wp2
    go_ret
    exact ⟨rfl, rfl⟩
theorem index_any (w : World) (n : Int) (c : Nat) (hc : 0 < c) (hl : c ≤ 8796093022208) :
    Calls Try.prog 71 #[.int .i64 n, .int .i64 c] w fun e w' => e = .returned (.int .i64 (idx n c)) ∧ w' = w := by
  rw [idx_int n c hc]
  have hz : (c : Int) ≠ 0 := by omega
  have hv : (n.tmod c + c).tmod c = n % (c : Int) := by
    rcases tmod_cases n c hc with ⟨h1, h2, h3⟩ | ⟨h1, h2, h3⟩
    · rw [Int.tmod_eq_emod_of_nonneg (by omega), h2, Int.add_emod_right, Int.emod_eq_of_lt h1 h3]
    · rw [Int.tmod_eq_emod_of_nonneg (by omega), h2, Int.emod_eq_of_lt (by omega) (by omega)]
  have hr : -9223372036854775808 ≤ n.tmod c + c ∧ n.tmod c + c ≤ 9223372036854775807 := by
    rcases tmod_cases n c hc with ⟨h1, h2, h3⟩ | ⟨h1, h2, h3⟩ <;> omega
  have hw : wrap64 (n.tmod c + c) = n.tmod c + c := by unfold wrap64; omega
  go_enter Try.func71, Try.ntmps71
  go_wp2
  go_ret
  exact ⟨rfl, rfl⟩

/-- a set behind an act of the kinds 0 to 3, and what this tells -/
def upd (xs : Ps) (a : Ac) : Ps × Fd :=
  if bits .and .i64 a.kind 3 = 0 then (put a.key a.data xs, fdAt a.key (findP a.key xs))
  else if bits .and .i64 a.kind 3 = 1 then (drop a.key xs, fdAt a.key (findP a.key xs))
  else if bits .and .i64 a.kind 3 = 2 then (drop (fdOf xs.head?).1 xs, fdOf xs.head?)
  else (drop (fdOf xs.getLast?).1 xs, fdOf xs.getLast?)
theorem drop_head {xs : Ps} (h : Up xs) : drop (fdOf xs.head?).1 xs = xs.tail := drop_min h _ (fun a ha => by rw [ha]; rfl)
theorem drop_last {xs : Ps} (h : Up xs) : drop (fdOf xs.getLast?).1 xs = xs.dropLast := drop_max h _ (fun a ha => by rw [ha]; rfl)

/-- what the regions of update lean on -/
structure Us (W : World) (b ab rb : Nat) (a : Ac) (zs : Ps) (W1 : World) : Prop where
  head : Head W1 b zs
  kept : Kept (One b) W W1
  act : AcB W1 ab a
  res : FdAt W1 rb (0, 0, false)
  ba : b ≠ ab
  br : b ≠ rb
  ar : ab ≠ rb
  rn : W.heap.size ≤ rb
theorem Us.ext {W W1 W2 : World} {b ab rb : Nat} {a : Ac} {zs : Ps} (h : Us W b ab rb a zs W1) (hk : Kept Non W1 W2) : Us W b ab rb a zs W2 := ⟨h.head.ext hk, h.kept.trans hk.one, h.act.ext hk, h.res.ext hk, h.ba, h.br, h.ar, h.rn⟩
theorem Us.drew {W W1 : World} {b ab rb : Nat} {a : Ac} {zs : Ps} (h : Us W b ab rb a zs W1) : Us W b ab rb a zs W1.drew := h.ext (Kept.refl _ _).drew
theorem Us.turn {W W1 W2 : World} {b ab rb : Nat} {a : Ac} {zs ys : Ps} (h : Us W b ab rb a zs W1) (h1 : Head W2 b ys) (h2 : Kept (One b) W1 W2) : Us W b ab rb a ys W2 :=
  ⟨h1, h.kept.trans h2, ⟨(h2.block _ (block_lt h.act.blk) (fun e => h.ba e.symm)).trans h.act.blk⟩, h.res.keptO h2 (fun e => h.br e.symm), h.ba, h.br, h.ar, h.rn⟩
theorem Us.cells {W W1 : World} {b ab rb : Nat} {a : Ac} {zs : Ps} (h : Us W b ab rb a zs W1) : W1.cell? ⟨ab, 3, none⟩ = some (.int .i32 a.key) ∧ W1.cell? ⟨ab, 4, none⟩ = some (.int .i64 a.data) ∧ Kept (One b) W W1 := ⟨by simpa using h.act.at.c3, by simpa using h.act.at.c4, h.kept⟩
/-- the result is stored -/
theorem Us.set {W W1 : World} {b ab rb : Nat} {a : Ac} {zs : Ps} (h : Us W b ab rb a zs W1) (g : Fd) :
    Head (((W1.setCell ⟨rb, 0, none⟩ (.int .i32 g.1)).setCell ⟨rb, 1, none⟩ (.int .i64 g.2.1)).setCell ⟨rb, 2, none⟩ (.bool g.2.2)) b zs ∧ Kept (One b) W (((W1.setCell ⟨rb, 0, none⟩ (.int .i32 g.1)).setCell ⟨rb, 1, none⟩ (.int .i64 g.2.1)).setCell ⟨rb, 2, none⟩ (.bool g.2.2)) ∧ AcB (((W1.setCell ⟨rb, 0, none⟩ (.int .i32 g.1)).setCell ⟨rb, 1, none⟩ (.int .i64 g.2.1)).setCell ⟨rb, 2, none⟩ (.bool g.2.2)) ab a := by
  have hr := h.rn
  refine ⟨h.head.kept FdAt.setK (fun e => h.br e) (fun T hT c hc e => by have e' : c = rb := e; subst e'; exact h.res.not_blk hT hc), h.kept.trans' FdAt.setK (fun i hi e => by have e' : i = rb := e; omega), ⟨(FdAt.setK.block _ (block_lt h.act.blk) (fun e => h.ar e)).trans h.act.blk⟩⟩
theorem Us.setc {W W1 : World} {b ab rb : Nat} {a : Ac} {zs : Ps} (h : Us W b ab rb a zs W1) (x d : Int) (p : Bool) :
    (((W1.setCell ⟨rb, 0, none⟩ (.int .i32 x)).setCell ⟨rb, 1, none⟩ (.int .i64 d)).setCell ⟨rb, 2, none⟩ (.bool p)).cell? ⟨ab, 3, none⟩ = some (.int .i32 a.key) ∧ (((W1.setCell ⟨rb, 0, none⟩ (.int .i32 x)).setCell ⟨rb, 1, none⟩ (.int .i64 d)).setCell ⟨rb, 2, none⟩ (.bool p)).cell? ⟨ab, 4, none⟩ = some (.int .i64 a.data) ∧ Kept (One b) W (((W1.setCell ⟨rb, 0, none⟩ (.int .i32 x)).setCell ⟨rb, 1, none⟩ (.int .i64 d)).setCell ⟨rb, 2, none⟩ (.bool p)) := by
  obtain ⟨_, h2, h3⟩ := h.set (x, d, p)
  exact ⟨by simpa using h3.at.c3, by simpa using h3.at.c4, h2⟩
structure FdC (w : World) (rb : Nat) : Prop where
  c0 : w.cell? ⟨rb, 0, none⟩ = some (.int .i32 0)
  c1 : w.cell? ⟨rb, 1, none⟩ = some (.int .i64 0)
  c2 : w.cell? ⟨rb, 2, none⟩ = some (.bool false)
  fz : ∀ i, w.frozen? ⟨rb, i, none⟩ = false
theorem Us.fdc {W W1 : World} {b ab rb : Nat} {a : Ac} {zs : Ps} (h : Us W b ab rb a zs W1) : FdC W1 rb := ⟨h.res.c0, h.res.c1, h.res.c2, h.res.fz⟩
def UpdRes (w : World) (b : Nat) (r : Ps × Fd) (e : Ending) (w' : World) : Prop := e = .returned (fv r.2) ∧ Head w' b r.1 ∧ Kept (One b) w w'


end Go.Proofs.Ytehegllgaiehfaa
