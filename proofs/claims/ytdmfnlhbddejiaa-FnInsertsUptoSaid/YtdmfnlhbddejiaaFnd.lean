/- found, spec.none, spec.At, spec.Least, spec.Greatest, spec.Below, spec.Above: a key and its data as they are told. -/
import Derived.Test.YtdmfnlhbddejiaaLoop2
namespace Go.Proofs.Ytdmfnlhbddejiaa
open Go.RowKit

/-- a Found: key, data, whether there are any -/
abbrev Fd := Int × Int × Bool
def fc (f : Fd) : List Value := [.int .i32 f.1, .int .i64 f.2.1, .bool f.2.2]
def fv (f : Fd) : Value := .agg #[.int .i32 f.1, .int .i64 f.2.1, .bool f.2.2]
/-- what is told of a key that was asked for -/
def fdAt (x : Int) (r : Option (Int × Int)) : Fd := match r with
  | none => (x, 0, false)
  | some a => (x, a.2, true)
/-- what is told of a key that was looked for -/
def fdOf (r : Option (Int × Int)) : Fd := match r with
  | none => (-2147483648, 0, false)
  | some a => (a.1, a.2, true)

def RetF (w : World) (f : Fd) (e : Ending) (w' : World) : Prop := e = .returned (fv f) ∧ Kept Non w w'

theorem und20 : Try.prog.underlying 20 = some (.interface #[]) := by kernel_rfl
theorem eql_held_nil (t : TypeId) (v : Value) (w : World) : (binOp .eql 20 (.iface t v) .nilIface).run Try.prog w = .ok (.bool false) w := by
  have h : ∀ d : Nat, (Op.equalIn (d + 1) 20 (.iface t v) .nilIface).run Try.prog w = .ok false w := fun d => by simp [Op.equalIn, run_underlying und20]
  simp only [binOp]
  simp [Op.equal, Op.maxDepth, h 9999]
theorem neq_held_nil (t : TypeId) (v : Value) (w : World) : (binOp .neq 20 (.iface t v) .nilIface).run Try.prog w = .ok (.bool true) w := by
  have h : ∀ d : Nat, (Op.equalIn (d + 1) 20 (.iface t v) .nilIface).run Try.prog w = .ok false w := fun d => by simp [Op.equalIn, run_underlying und20]
  simp only [binOp]
  simp [Op.equal, Op.maxDepth, h 9999]
theorem eql_nil_nil (w : World) : (binOp .eql 20 .nilIface .nilIface).run Try.prog w = .ok (.bool true) w := by
  have h : ∀ d : Nat, (Op.equalIn (d + 1) 20 .nilIface .nilIface).run Try.prog w = .ok true w := fun d => by simp [Op.equalIn, run_underlying und20]
  simp only [binOp]
  simp [Op.equal, Op.maxDepth, h 9999]
theorem assert_int (d : Int) (w : World) : (Instr.typeAssert (.iface 3 (.int .i64 d)) 20 3 false).run Try.prog w = .ok (.int .i64 d) w := by
  have hu : Try.prog.underlying 3 = some (.int .i64) := by kernel_rfl
  simp [Instr.typeAssert, run_underlying hu]
/-- the cells of a Found that the call itself made -/
structure FdAt (w : World) (b : Nat) (f : Fd) : Prop where
  blk : w.heap[b]? = some (.cells #[.int .i32 f.1, .int .i64 f.2.1, .bool f.2.2] 44 (0, 0))
theorem FdAt.c0 {w : World} {b : Nat} {f : Fd} (h : FdAt w b f) : w.cell? ⟨b, 0, none⟩ = some (.int .i32 f.1) := by rw [cell_of h.blk]; rfl
theorem FdAt.c1 {w : World} {b : Nat} {f : Fd} (h : FdAt w b f) : w.cell? ⟨b, 1, none⟩ = some (.int .i64 f.2.1) := by rw [cell_of h.blk]; rfl
theorem FdAt.c2 {w : World} {b : Nat} {f : Fd} (h : FdAt w b f) : w.cell? ⟨b, 2, none⟩ = some (.bool f.2.2) := by rw [cell_of h.blk]; rfl
theorem FdAt.fz {w : World} {b : Nat} {f : Fd} (h : FdAt w b f) (i : Nat) : w.frozen? ⟨b, i, none⟩ = false := frozen_of h.blk i
theorem FdAt.ext {w w' : World} {b : Nat} {f : Fd} (h : FdAt w b f) (hk : Kept Non w w') : FdAt w' b f := ⟨(hk.block b (block_lt h.blk) (fun h => h)).trans h.blk⟩

theorem find_nth {α : Type} {p : α → Bool} {xs : List α} {k : Nat} (hlt : k < xs.length) (h : ∀ a ∈ xs.take k, p a = false) (hk : p xs[k] = true) : xs.find? p = some xs[k] := by
  have e : xs.find? p = (xs.take k ++ xs.drop k).find? p := by rw [List.take_append_drop]
  rw [e, find_right h, List.drop_eq_getElem_cons hlt, List.find?_cons_of_pos hk]

theorem At_any (w : World) (v : Value) (ps : List (Int × Int)) (x : Int) (h : SlP w v ps) (hl : ps.length ≤ 8796093022208) :
    Calls Try.prog 37 #[v, .int .i32 x] w (RetF w (fdAt x (findP x ps))) := by
  obtain ⟨a, cap, rfl⟩ := h.form
  have HS := hid h
  clear h
  go_enter Try.func37, Try.ntmps37
  go_wp2
  go_loopg [9] (ps.length) (fun n i wr => ∃ k : Nat, k + n = ps.length ∧ i = .int .i64 k ∧ Kept Non w wr ∧ FdAt wr w.heap.size (0, 0, false) ∧ ∀ p ∈ ps.take k, (p.1 == x) = false)
  case atStart => exact ⟨0, by simp, rfl, (Kept.refl _ _).alloc _, ⟨alloc_new _ _⟩, by simp⟩
  case round =>
    obtain ⟨k, hk, rfl, hK, hF, hall⟩ := hrel
    have HK := hid (And.intro hK (And.intro hF hall))
    have r0 := hF.c0
    have r1 := hF.c1
    have r2 := hF.c2
    have rf := hF.fz
    have hN : w.heap.size < wr.heap.size := block_lt hF.blk
    have hN' : w.heap.size ≠ wr.heap.size := Nat.ne_of_lt hN
    clear hall hF
    by_cases hlt : k < ps.length
    · obtain ⟨b, off, rfl, _, c0, c1⟩ := HS.out.pair hK k hlt
      clear hK
      by_cases hx : ps[k].1 = x
      · have hx' : (ps[k].1 == x) = true := by simpa using hx
        have HX : Hid (fdAt x (findP x ps) = (x, ps[k].2, true)) := by
          show _ = _
          have : findP x ps = some ps[k] := by
            exact find_nth hlt HK.out.2.2 hx'
          rw [this]; rfl
        clear hx
        go_wp2
        refine bodyPost_ret (v := .agg #[.int .i32 x, .int .i64 ps[k].2, .bool true]) (by simp [results, Try.results37, go_sem, *]) rfl ?_
        rw [RetF, HX.out]
        refine ⟨rfl, ?_⟩
        repeat (first | exact HK.out.1 | refine Kept.alloc ?_ _ | refine Kept.setNew ?_ _ _ (Nat.le_refl _) _)
      · have hx' : (ps[k].1 == x) = false := by simpa using hx
        have HX := hid hx'
        clear hx
        go_wp2
        go_roundg (gk - 1)
        case measure => omega
        case rel => exact ⟨k + 1, by omega, by go_num, HK.out.1.alloc _, HK.out.2.1.ext ((Kept.refl _ _).alloc _), all_take_succ hlt HK.out.2.2 HX.out⟩
    · have HX : Hid (fdAt x (findP x ps) = (x, 0, false)) := by
        show _ = _
        have : findP x ps = none := by
          unfold findP
          rw [List.find?_eq_none]
          intro p hp
          have := HK.out.2.2 p (by rw [List.take_of_length_le (by omega)]; exact hp)
          simp [this]
        rw [this]; rfl
      clear hK
      go_wp2
      refine bodyPost_ret (v := .agg #[.int .i32 x, .int .i64 0, .bool false]) (by simp [results, Try.results37, go_sem, *]) rfl ?_
      rw [RetF, HX.out]
      refine ⟨rfl, ?_⟩
      repeat (first | exact HK.out.1 | refine Kept.alloc ?_ _ | refine Kept.setNew ?_ _ _ (Nat.le_refl _) _)

end Go.Proofs.Ytdmfnlhbddejiaa
