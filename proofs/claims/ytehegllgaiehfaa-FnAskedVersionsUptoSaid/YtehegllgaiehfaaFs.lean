/- Slices of Found: spec.Told, spec.SameFound. -/
import Derived.Test.YtehegllgaiehfaaSame
import Derived.Test.YtehegllgaiehfaaIt1
namespace Go.Proofs.Ytehegllgaiehfaa
open Go.RowKit

abbrev SlF := @Sl Fd 3 fc
abbrev OwnF := @Own Fd 3 fc 31
theorem fc_enc (f : Fd) : (fc f).length = 3 ∧ ∀ u ∈ fc f, u.oneCell' = true := ⟨rfl, fun u hu => by simp [fc] at hu; rcases hu with rfl | rfl | rfl <;> rfl⟩
theorem tyF : ElTy 41 31 3 24 := elTy_of (z := .agg #[.int .i32 0, .int .i64 0, .bool false]) (by kernel_rfl) (by kernel_rfl) rfl (by decide)
theorem OwnF.sl {base : Nat} {w : World} {v : Value} {xs : List Fd} (h : OwnF base w v xs) : SlF w v xs := Own.sl (fun p => (fc_enc p).1) h
theorem Sl.fd {w w' : World} {a : Option Addr} {n cap : Nat} {ps : List Fd} (h : SlF w (.slice a n cap) ps) (hk : Kept Non w w') (k : Nat) (hlt : k < ps.length) :
    ∃ b off, a = some ⟨b, off, none⟩ ∧ b < w.heap.size ∧ w'.cell? ⟨b, off + k * 3, none⟩ = some (.int .i32 ps[k].1) ∧ w'.cell? ⟨b, off + k * 3 + 1, none⟩ = some (.int .i64 ps[k].2.1) ∧ w'.cell? ⟨b, off + k * 3 + 2, none⟩ = some (.bool ps[k].2.2) := by
  obtain ⟨b, off, ha, hb, hc⟩ := h.cells hk k hlt
  exact ⟨b, off, ha, hb, hc 0 _ rfl, hc 1 _ rfl, hc 2 _ rfl⟩
def NewF (w : World) (xs : List Fd) (e : Ending) (w' : World) : Prop := ∃ v, e = .returned v ∧ OwnF w.heap.size w' v xs ∧ Kept Non w w'
/-- a pair as it is told -/
def tf (p : Int × Int) : Fd := (p.1, p.2, true)

/-- the own block of a slice -/
def OwnS (v : Value) : Nat → Prop := fun k => v.ownBlock = some k
theorem Own.not_blk {α : Type} {sz : Nat} {enc : α → List Value} {E base : Nat} {w : World} {v : Value} {xs : List α} (h : Own sz enc E base w v xs) (hE : E ≠ 104) : ∀ T, In w T → ∀ b, Blk b T → ¬ OwnS v b := by
  intro T hT b hb e
  obtain ⟨l, r, d, k, hh, ho⟩ := hT.obj hb
  obtain ⟨_, h2⟩ := h.own
  rcases h2 with ⟨hv, _⟩ | ⟨g, cap, cur, hv, hg, hc, _⟩
  · subst hv; simp [OwnS, Value.ownBlock] at e
  · subst hv
    simp [OwnS, Value.ownBlock] at e
    subst e
    rw [hc] at ho
    simp [nodeObj] at ho
    exact hE ho.2
theorem Own.old {α : Type} {sz : Nat} {enc : α → List Value} {E base : Nat} {w : World} {v : Value} {xs : List α} (h : Own sz enc E base w v xs) {b : Nat} (hb : b < base) : ¬ OwnS v b := fun e => by
  have := h.block b e
  omega
/-- APPEND of one element to a slice of the call's own: only its own block turns -/
theorem wpList_app2 {α : Type} {sz bytes t E : Nat} {enc : α → List Value} {ops : Array Oper} {rest : List Oper} {o : Oper} {a : Act} {w : World} {Q : Exit → Act → World → Prop} (hgd : o.guard = none) (s x : Operand)
    (ho : o.op = .call { callee := .builtin .append, args := #[s, x], argTypes := #[t, t] }) (hty : ElTy t E sz bytes) (henc : ∀ x : α, (enc x).length = sz ∧ ∀ u ∈ enc x, u.oneCell' = true)
    (base : Nat) (v : Value) (xs : List α) (hs : a.eval s = v) (hown : Own sz enc E base w v xs) (nb : Nat) (y : α) (hx : a.eval x = .slice (some ⟨nb, 0, none⟩) 1 1) (hy : ∀ j u, (enc y)[j]? = some u → w.cell? ⟨nb, j, none⟩ = some u)
    (hlen : (xs.length + 1) * bytes ≤ 140737488355328) (hpos : 0 < bytes) (hbase : base ≤ w.heap.size)
    (h : ∀ v' w', Own sz enc E base w' v' (xs ++ [y]) → Kept (OwnS v) w w' → wpList Try.prog ops Q rest (a.put o.dst v') w') : wpList Try.prog ops Q (o :: rest) a w := by
  obtain ⟨i, z, h1, h2, h3, h4, h5, h6, h7⟩ := hty.ex
  have hl : xs.length + 1 ≤ maxLen := by
    have : (xs.length + 1) * 1 ≤ (xs.length + 1) * bytes := Nat.mul_le_mul_left _ hpos
    unfold maxLen; omega
  refine wpList_append_own w hgd s x t ho base E i z sz bytes h1 h2 h3 h4 h5 h6 h7 v xs.length (xs.flatMap enc) hs hown.own ⟨nb, 0, none⟩ 1 1 (enc y) hx (by rw [(henc y).1, Nat.one_mul]) (fun j u hj => ?_) (henc y).2 hl hlen hbase ?_
  · have := hy j u hj
    unfold Addr.add
    split
    · rename_i e; subst e; exact this
    · simpa using this
  · intro v' w' g1 g2 _
    exact h v' w' ⟨by simpa using g1⟩ ⟨g2.os, g2.tape, g2.output, g2.size, fun k hk hn => g2.block k hk (fun e => hn e.symm)⟩


set_option maxRecDepth 100000 in
theorem SameFound_any (w : World) (v u : Value) (ps qs : List Fd) (h : SlF w v ps) (h' : SlF w u qs) (hl : ps.length ≤ 8796093022208) :
    Calls Try.prog 22 #[v, u] w fun e w' => e = .returned (.bool (decide (ps = qs))) ∧ Kept Non w w' := by
  obtain ⟨a, cap, rfl⟩ := h.form
  obtain ⟨a', cap', rfl⟩ := h'.form
  have HS := hid0 (And.intro h h')
  clear h h'
  by_cases hlen : ps.length = qs.length
  · have hlb : ((ps.length : Int) != (qs.length : Int)) = false := by simp [hlen]
    go_enter Try.func22, Try.ntmps22
    have HL := hid0 hlen
    have hle : ps.length ≤ qs.length ∧ qs.length ≤ ps.length := by omega
    clear hlen
    go_wp2
    go_loopg [14] (ps.length) (fun n i wr => ∃ k : Nat, k + n = ps.length ∧ i = .int .i64 k ∧ Kept Non w wr ∧ ps.take k = qs.take k)
    case atStart => exact ⟨0, by simp, rfl, Kept.refl _ _, by simp⟩
    case round =>
      obtain ⟨k, hk, rfl, hK, hall⟩ := hrel
      have HK := hid0 (And.intro hK hall)
      clear hall
      by_cases hlt : k < ps.length
      · have hlt' : k < qs.length := by omega
        obtain ⟨b, off, rfl, _, c0, c1, c2⟩ := HS.out.1.fd hK k hlt
        obtain ⟨b', off', rfl, hb', d0, d1, d2⟩ := HS.out.2.fd hK k hlt'
        have hbr : b' ≠ wr.heap.size := Nat.ne_of_lt (Nat.lt_of_lt_of_le hb' hK.size)
        clear hK
        have hi0 : (0 : Int) ≤ (k : Int) := Int.natCast_nonneg _
        have hi1 : (k : Int) < (qs.length : Int) := by omega
        go_wp2_with fail
        refine wp_gen (fun W => W.cell? ⟨wr.heap.size, 0, none⟩ = some (.int .i32 ps[k].1) ∧ W.cell? ⟨wr.heap.size, 1, none⟩ = some (.int .i64 ps[k].2.1) ∧ W.cell? ⟨wr.heap.size, 2, none⟩ = some (.bool ps[k].2.2) ∧ W.cell? ⟨b', off' + k * 3, none⟩ = some (.int .i32 qs[k].1) ∧ W.cell? ⟨b', off' + k * 3 + 1, none⟩ = some (.int .i64 qs[k].2.1) ∧ W.cell? ⟨b', off' + k * 3 + 2, none⟩ = some (.bool qs[k].2.2) ∧ Kept Non w W) ⟨?_, ?_, ?_, ?_, ?_, ?_, HK.out.1.alloc _⟩ ?_
        · rw [cell_of (alloc_new wr _)]; rfl
        · rw [cell_of (alloc_new wr _)]; rfl
        · rw [cell_of (alloc_new wr _)]; rfl
        · rw [World.cell?_alloc_old _ _ _ hbr]; exact d0
        · rw [World.cell?_alloc_old _ _ _ hbr]; exact d1
        · rw [World.cell?_alloc_old _ _ _ hbr]; exact d2
        rintro W ⟨e0, e1, e2, e3, e4, e5, hKW⟩
        have HW := hid0 hKW
        clear hKW c0 c1 c2 d0 d1 d2
        have hq := neq_fd0 ps[k].1 ps[k].2.1 qs[k].1 qs[k].2.1 ps[k].2.2 qs[k].2.2
        rw [fd_beq] at hq
        by_cases hc : ps[k] = qs[k]
        · have hcb : (ps[k] == qs[k]) = true := by simp [hc]
          rw [hcb] at hq
          have HC := hid0 hc
          clear hc hcb
          refine wp_region_still_lit (by kernel_rfl) (by kernel_rfl) ?_
          iterate 6 still_step
          refine wpStill_nil ?_
          go_wp2
          go_roundg (gk - 1)
          case measure => omega
          case rel => exact ⟨k + 1, by omega, by go_num, HW.out.drew, take_succ_eq hlt hlt' HK.out.2 HC.out⟩
        · have hcb : (ps[k] == qs[k]) = false := by simp [hc]
          rw [hcb] at hq
          have HC : Hid (decide (ps = qs) = false) := by
            show _ = _
            rw [decide_eq_false_iff_not]
            intro e
            exact hc (by simp [e])
          clear hc hcb
          refine wp_region_still_lit (by kernel_rfl) (by kernel_rfl) ?_
          iterate 6 still_step
          refine wpStill_nil ?_
          go_wp2
          go_ret
          exact ⟨by rw [HC.out]; rfl, HW.out.drew⟩
      · clear hK
        go_wp2
        go_ret
        refine ⟨?_, HK.out.1⟩
        have : decide (ps = qs) = true := by
          rw [decide_eq_true_iff]
          have := HK.out.2
          rwa [List.take_of_length_le (by omega), List.take_of_length_le (by omega)] at this
        rw [this]; rfl
  · have hlb : ((ps.length : Int) != (qs.length : Int)) = true := by simp; omega
    have HL := hid0 hlen
    clear hlen
    go_enter Try.func22, Try.ntmps22
    go_wp2
    go_ret
    refine ⟨?_, Kept.refl _ _⟩
    have : decide (ps = qs) = false := by
      rw [decide_eq_false_iff_not]
      intro e
      exact HL.out (by rw [e])
    rw [this]; rfl

end Go.Proofs.Ytehegllgaiehfaa
