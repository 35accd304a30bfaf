/- found, spec.none, spec.At, spec.Least, spec.Greatest, spec.Below, spec.Above: a key and its data as they are told. -/
import Derived.Test.YtehegllgaiehfaaLoop2
namespace Go.Proofs.Ytehegllgaiehfaa
open Go.RowKit

/-- a Found: key, data, whether there are any -/
abbrev Fd := Int × Int × Bool
def fc (f : Fd) : List Value := [.int .i32 f.1, .int .i64 f.2.1, .bool f.2.2]
def fv (f : Fd) : Value := .agg #[.int .i32 f.1, .int .i64 f.2.1, .bool f.2.2]
/-- what is told of a key that was asked for -/
def fdAt (x : Int) (r : Option (Int × Int)) : Fd := match r with
  | none => (x, 0, false)
  | some a => (x, a.2, true)
/-- what is told of a key that was looked for -/
def fdOf (r : Option (Int × Int)) : Fd := match r with
  | none => (-2147483648, 0, false)
  | some a => (a.1, a.2, true)

def RetF (w : World) (f : Fd) (e : Ending) (w' : World) : Prop := e = .returned (fv f) ∧ Kept Non w w'

theorem none_any (w : World) : Calls Try.prog 78 #[] w (RetF w (-2147483648, 0, false)) := by
  go_enter Try.func78, Try.ntmps78
  go_wp2
  exact bodyPost_ret (v := .agg #[.int .i32 (-2147483648), .int .i64 0, .bool false]) (by simp [results, Try.results78, go_sem]) rfl ⟨rfl, (Kept.refl _ _).alloc _⟩

theorem found_nil (w : World) (k : Int) : Calls Try.prog 32 #[.int .i32 k, .nilIface] w (RetF w (k, 0, false)) := by
  go_enter Try.func32, Try.ntmps32
  go_wp2
  exact bodyPost_ret (v := .agg #[.int .i32 k, .int .i64 0, .bool false]) (by simp [results, Try.results32, go_sem]) rfl ⟨rfl, (Kept.refl _ _).alloc _⟩
theorem und20 : Try.prog.underlying 20 = some (.interface #[]) := by kernel_rfl
theorem eql_held_nil (t : TypeId) (v : Value) (w : World) : (binOp .eql 20 (.iface t v) .nilIface).run Try.prog w = .ok (.bool false) w := by
  have h : ∀ d : Nat, (Op.equalIn (d + 1) 20 (.iface t v) .nilIface).run Try.prog w = .ok false w := fun d => by simp [Op.equalIn, run_underlying und20]
  simp only [binOp]
  simp [Op.equal, Op.maxDepth, h 9999]
theorem neq_held_nil (t : TypeId) (v : Value) (w : World) : (binOp .neq 20 (.iface t v) .nilIface).run Try.prog w = .ok (.bool true) w := by
  have h : ∀ d : Nat, (Op.equalIn (d + 1) 20 (.iface t v) .nilIface).run Try.prog w = .ok false w := fun d => by simp [Op.equalIn, run_underlying und20]
  simp only [binOp]
  simp [Op.equal, Op.maxDepth, h 9999]
theorem eql_nil_nil (w : World) : (binOp .eql 20 .nilIface .nilIface).run Try.prog w = .ok (.bool true) w := by
  have h : ∀ d : Nat, (Op.equalIn (d + 1) 20 .nilIface .nilIface).run Try.prog w = .ok true w := fun d => by simp [Op.equalIn, run_underlying und20]
  simp only [binOp]
  simp [Op.equal, Op.maxDepth, h 9999]
theorem assert_int (d : Int) (w : World) : (Instr.typeAssert (.iface 3 (.int .i64 d)) 20 3 false).run Try.prog w = .ok (.int .i64 d) w := by
  have hu : Try.prog.underlying 3 = some (.int .i64) := by kernel_rfl
  simp [Instr.typeAssert, run_underlying hu]
theorem found_some (w : World) (k d : Int) : Calls Try.prog 32 #[.int .i32 k, .iface 3 (.int .i64 d)] w (RetF w (k, d, true)) := by
  have hq := eql_held_nil
  have ha := assert_int
  go_enter Try.func32, Try.ntmps32
  go_wp2
  exact bodyPost_ret (v := .agg #[.int .i32 k, .int .i64 d, .bool true]) (by simp [results, Try.results32, go_sem]) rfl ⟨rfl, (Kept.refl _ _).alloc _⟩
theorem found_at (w : World) (x : Int) (r : Option (Int × Int)) : Calls Try.prog 32 #[.int .i32 x, dv r] w (RetF w (fdAt x r)) := by
  cases r with
  | none => exact found_nil w x
  | some a => exact found_some w x a.2


/-- the cells of a Found that the call itself made -/
structure FdAt (w : World) (b : Nat) (f : Fd) : Prop where
  blk : w.heap[b]? = some (.cells #[.int .i32 f.1, .int .i64 f.2.1, .bool f.2.2] 31 (0, 0))
theorem FdAt.c0 {w : World} {b : Nat} {f : Fd} (h : FdAt w b f) : w.cell? ⟨b, 0, none⟩ = some (.int .i32 f.1) := by rw [cell_of h.blk]; rfl
theorem FdAt.c1 {w : World} {b : Nat} {f : Fd} (h : FdAt w b f) : w.cell? ⟨b, 1, none⟩ = some (.int .i64 f.2.1) := by rw [cell_of h.blk]; rfl
theorem FdAt.c2 {w : World} {b : Nat} {f : Fd} (h : FdAt w b f) : w.cell? ⟨b, 2, none⟩ = some (.bool f.2.2) := by rw [cell_of h.blk]; rfl
theorem FdAt.fz {w : World} {b : Nat} {f : Fd} (h : FdAt w b f) (i : Nat) : w.frozen? ⟨b, i, none⟩ = false := frozen_of h.blk i
theorem FdAt.ext {w w' : World} {b : Nat} {f : Fd} (h : FdAt w b f) (hk : Kept Non w w') : FdAt w' b f := ⟨(hk.block b (block_lt h.blk) (fun h => h)).trans h.blk⟩

theorem find_nth {α : Type} {p : α → Bool} {xs : List α} {k : Nat} (hlt : k < xs.length) (h : ∀ a ∈ xs.take k, p a = false) (hk : p xs[k] = true) : xs.find? p = some xs[k] := by
  have e : xs.find? p = (xs.take k ++ xs.drop k).find? p := by rw [List.take_append_drop]
  rw [e, find_right h, List.drop_eq_getElem_cons hlt, List.find?_cons_of_pos hk]

theorem At_any (w : World) (v : Value) (ps : List (Int × Int)) (x : Int) (h : SlP w v ps) (hl : ps.length ≤ 8796093022208) :
    Calls Try.prog 48 #[v, .int .i32 x] w (RetF w (fdAt x (findP x ps))) := by
  obtain ⟨a, cap, rfl⟩ := h.form
  have HS := hid h
  clear h
  go_enter Try.func48, Try.ntmps48
  go_wp2
  go_loopg [9] (ps.length) (fun n i wr => ∃ k : Nat, k + n = ps.length ∧ i = .int .i64 k ∧ Kept Non w wr ∧ FdAt wr w.heap.size (0, 0, false) ∧ ∀ p ∈ ps.take k, (p.1 == x) = false)
  case atStart => exact ⟨0, by simp, rfl, (Kept.refl _ _).alloc _, ⟨alloc_new _ _⟩, by simp⟩
  case round =>
    obtain ⟨k, hk, rfl, hK, hF, hall⟩ := hrel
    have HK := hid (And.intro hK (And.intro hF hall))
    have r0 := hF.c0
    have r1 := hF.c1
    have r2 := hF.c2
    have rf := hF.fz
    have hN : w.heap.size < wr.heap.size := block_lt hF.blk
    have hN' : w.heap.size ≠ wr.heap.size := Nat.ne_of_lt hN
    clear hall hF
    by_cases hlt : k < ps.length
    · obtain ⟨b, off, rfl, _, c0, c1⟩ := HS.out.pair hK k hlt
      clear hK
      by_cases hx : ps[k].1 = x
      · have hx' : (ps[k].1 == x) = true := by simpa using hx
        have HX : Hid (fdAt x (findP x ps) = (x, ps[k].2, true)) := by
          show _ = _
          have : findP x ps = some ps[k] := by
            exact find_nth hlt HK.out.2.2 hx'
          rw [this]; rfl
        clear hx
        go_wp2
        refine bodyPost_ret (v := .agg #[.int .i32 x, .int .i64 ps[k].2, .bool true]) (by simp [results, Try.results48, go_sem, *]) rfl ?_
        rw [RetF, HX.out]
        refine ⟨rfl, ?_⟩
        repeat (first | exact HK.out.1 | refine Kept.alloc ?_ _ | refine Kept.setNew ?_ _ _ (Nat.le_refl _) _)
      · have hx' : (ps[k].1 == x) = false := by simpa using hx
        have HX := hid hx'
        clear hx
        go_wp2
        go_roundg (gk - 1)
        case measure => omega
        case rel => exact ⟨k + 1, by omega, by go_num, HK.out.1.alloc _, HK.out.2.1.ext ((Kept.refl _ _).alloc _), all_take_succ hlt HK.out.2.2 HX.out⟩
    · have HX : Hid (fdAt x (findP x ps) = (x, 0, false)) := by
        show _ = _
        have : findP x ps = none := by
          unfold findP
          rw [List.find?_eq_none]
          intro p hp
          have := HK.out.2.2 p (by rw [List.take_of_length_le (by omega)]; exact hp)
          simp [this]
        rw [this]; rfl
      clear hK
      go_wp2
      refine bodyPost_ret (v := .agg #[.int .i32 x, .int .i64 0, .bool false]) (by simp [results, Try.results48, go_sem, *]) rfl ?_
      rw [RetF, HX.out]
      refine ⟨rfl, ?_⟩
      repeat (first | exact HK.out.1 | refine Kept.alloc ?_ _ | refine Kept.setNew ?_ _ _ (Nat.le_refl _) _)

theorem Above_any (w : World) (v : Value) (ps : List (Int × Int)) (x : Int) (q : Bool) (h : SlP w v ps) (hl : ps.length ≤ 8796093022208) :
    Calls Try.prog 50 #[v, .int .i32 x, .bool q] w (RetF w (fdOf (lubP x q ps))) := by
  obtain ⟨a, cap, rfl⟩ := h.form
  have HS := hid h
  clear h
  go_enter Try.func50, Try.ntmps50
  go_wp2
  go_loopg [11] (ps.length) (fun n i wr => ∃ k : Nat, k + n = ps.length ∧ i = .int .i64 k ∧ Kept Non w wr ∧ FdAt wr w.heap.size (0, 0, false) ∧ ∀ p ∈ ps.take k, (decide (x < p.1) || (q && p.1 == x)) = false)
  case atStart => exact ⟨0, by simp, rfl, (Kept.refl _ _).alloc _, ⟨alloc_new _ _⟩, by simp⟩
  case round =>
    obtain ⟨k, hk, rfl, hK, hF, hall⟩ := hrel
    have HK := hid (And.intro hK (And.intro hF hall))
    have r0 := hF.c0
    have r1 := hF.c1
    have r2 := hF.c2
    have rf := hF.fz
    have hN : w.heap.size < wr.heap.size := block_lt hF.blk
    have hN' : w.heap.size ≠ wr.heap.size := Nat.ne_of_lt hN
    clear hall hF
    by_cases hlt : k < ps.length
    · obtain ⟨b, off, rfl, _, c0, c1⟩ := HS.out.pair hK k hlt
      clear hK
      have ways : (x < ps[k].1) ∨ (¬ x < ps[k].1 ∧ q = true ∧ (ps[k].1 == x) = true) ∨ (¬ x < ps[k].1 ∧ q = true ∧ (ps[k].1 == x) = false) ∨ (¬ x < ps[k].1 ∧ q = false) := by
        by_cases h1 : x < ps[k].1
        · exact .inl h1
        · cases q
          · exact .inr (.inr (.inr ⟨h1, rfl⟩))
          · cases h2 : (ps[k].1 == x)
            · exact .inr (.inr (.inl ⟨h1, rfl, rfl⟩))
            · exact .inr (.inl ⟨h1, rfl, rfl⟩)
      have yes : (decide (x < ps[k].1) || (q && ps[k].1 == x)) = true → fdOf (lubP x q ps) = (ps[k].1, ps[k].2, true) := fun hp => by
        rw [show lubP x q ps = some ps[k] from find_nth hlt HK.out.2.2 hp]; rfl
      have HY := hid yes
      clear yes
      rcases ways with hx | ⟨hx, rfl, hx2⟩ | ⟨hx, rfl, hx2⟩ | ⟨hx, rfl⟩
      · have HX := hid (HY.out (by simp [hx]))
        go_wp2
        refine bodyPost_ret (v := .agg #[.int .i32 ps[k].1, .int .i64 ps[k].2, .bool true]) (by simp [results, Try.results50, go_sem, *]) rfl ?_
        rw [RetF, HX.out]
        refine ⟨rfl, ?_⟩
        repeat (first | exact HK.out.1 | refine Kept.alloc ?_ _ | refine Kept.setNew ?_ _ _ (Nat.le_refl _) _)
      · have HX := hid (HY.out (by rw [hx2]; simp))
        go_wp2
        refine bodyPost_ret (v := .agg #[.int .i32 ps[k].1, .int .i64 ps[k].2, .bool true]) (by simp [results, Try.results50, go_sem, *]) rfl ?_
        rw [RetF, HX.out]
        refine ⟨rfl, ?_⟩
        repeat (first | exact HK.out.1 | refine Kept.alloc ?_ _ | refine Kept.setNew ?_ _ _ (Nat.le_refl _) _)
      · have HX : Hid ((decide (x < ps[k].1) || (true && ps[k].1 == x)) = false) := by show _ = _; rw [hx2]; simp; omega
        clear HY
        go_wp2
        go_roundg (gk - 1)
        case measure => omega
        case rel => exact ⟨k + 1, by omega, by go_num, HK.out.1.alloc _, HK.out.2.1.ext ((Kept.refl _ _).alloc _), all_take_succ hlt HK.out.2.2 HX.out⟩
      · have HX : Hid ((decide (x < ps[k].1) || (false && ps[k].1 == x)) = false) := by show _ = _; simp; omega
        clear HY
        go_wp2
        go_roundg (gk - 1)
        case measure => omega
        case rel => exact ⟨k + 1, by omega, by go_num, HK.out.1.alloc _, HK.out.2.1.ext ((Kept.refl _ _).alloc _), all_take_succ hlt HK.out.2.2 HX.out⟩
    · have HX : Hid (fdOf (lubP x q ps) = (-2147483648, 0, false)) := by
        show _ = _
        have : lubP x q ps = none := by
          unfold lubP
          rw [List.find?_eq_none]
          intro p hp
          have := HK.out.2.2 p (by rw [List.take_of_length_le (by omega)]; exact hp)
          simp only [this]; simp
        rw [this]; rfl
      clear hK
      go_wp2_with fail
      refine (none_any _).mono ?_
      rintro e w1 ⟨rfl, g1⟩
      have hF := HK.out.2.1.ext g1
      have HG := hid (HK.out.1.trans g1)
      have r0 := hF.c0
      have r1 := hF.c1
      have r2 := hF.c2
      have rf := hF.fz
      clear hF g1
      simp only [fv]
      go_wp2
      refine bodyPost_ret (v := .agg #[.int .i32 (-2147483648), .int .i64 0, .bool false]) (by simp [results, Try.results50, go_sem, *]) rfl ?_
      rw [RetF, HX.out]
      refine ⟨rfl, ?_⟩
      repeat (first | exact HG.out | refine Kept.alloc ?_ _ | refine Kept.setNew ?_ _ _ (Nat.le_refl _) _)

end Go.Proofs.Ytehegllgaiehfaa
