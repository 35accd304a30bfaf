/- iterator.next. -/
import Derived.Test.YtehegllgaiehfaaIt1
namespace Go.Proofs.Ytehegllgaiehfaa
open Go.RowKit

def Good (st : List Fr) : Prop := ∀ f fs, st = f :: fs → f.1 = true
theorem spine_good : ∀ (T : Tr) (st : List Fr), (T = .nil → Good st) → Good (spine T st)
  | .nil, st, h => h rfl
  | .node b o a l r, st, _ => spine_good l _ (fun _ f fs e => by cases e; rfl)
def NextPost (w : World) (ib g cap b : Nat) (xs : List (Int × Value)) (e : Ending) (w' : World) : Prop :=
  e = .returned (.pointer (some ⟨b, 0, none⟩)) ∧ Kept (Two ib g) w w' ∧ ∃ st', ItAt w' ib g cap st' ∧ Good st' ∧ rest st' = xs

theorem ItAt.top {w : World} {ib g cap : Nat} {f : Fr} {fs : List Fr} (h : ItAt w ib g cap (f :: fs)) : w.cell? ⟨g, fs.length, none⟩ = some f.2.ptr := by
  obtain ⟨cur, h1, _, _, _, h5⟩ := h.rowB
  rw [cell_of h1]
  have e : (cur.toList.take (fs.length + 1))[fs.length]? = some f.2.ptr := by
    rw [show fs.length + 1 = (f :: fs).length from rfl, h5, ptrs_cons, List.getElem?_append_right (by rw [ptrs_length]; exact Nat.le_refl _), ptrs_length]
    simp
  rw [List.getElem?_take_of_lt (by omega)] at e
  simpa using e
theorem ItAt.pop {w : World} {ib g cap : Nat} {f : Fr} {fs : List Fr} (h : ItAt w ib g cap (f :: fs)) : ItAt (w.setCell ⟨ib, 0, none⟩ (.slice (some ⟨g, 0, none⟩) fs.length cap)) ib g cap fs := by
  obtain ⟨ty, hh⟩ := h.hdr
  obtain ⟨cur, h1, h2, h3, h4, h5⟩ := h.rowB
  have hk : Kept (Two ib g) w (w.setCell ⟨ib, 0, none⟩ (.slice (some ⟨g, 0, none⟩) fs.length cap)) := (Kept.refl _ _).setCell _ _ (fun _ => .inl rfl)
  refine ⟨⟨ty, set_block hh 0 _⟩, ⟨by simp [ptrs], .inr ⟨g, cap, cur, rfl, Nat.zero_le _, (set_other (Ne.symm h.ne)).trans h1, ?_, h3, by simpa using h4, ?_⟩⟩, h.ne, h.chain.2.2.2.2.kept hk (fun T hT => h.apart hT)⟩
  · simp only [List.length_cons] at h2; omega
  · rw [Nat.mul_one]
    have e : cur.toList.take fs.length = (cur.toList.take (fs.length + 1)).take fs.length := by rw [List.take_take]; congr 1; omega
    rw [e, show fs.length + 1 = (f :: fs).length from rfl, h5, ptrs_cons, List.take_append_of_le_length (by rw [ptrs_length]; exact Nat.le_refl _), ← ptrs_length, List.take_length]
theorem ItAt.flag {w : World} {ib g cap : Nat} {f f' : Bool} {T : Tr} {fs : List Fr} (h : ItAt w ib g cap ((f, T) :: fs)) : ItAt w ib g cap ((f', T) :: fs) := ⟨h.hdr, h.row, h.ne, h.chain⟩
theorem ItAt.hcell {w : World} {ib g cap : Nat} {st : List Fr} (h : ItAt w ib g cap st) : w.cell? ⟨ib, 0, none⟩ = some (.slice (some ⟨g, 0, none⟩) st.length cap) := by
  obtain ⟨ty, hh⟩ := h.hdr
  rw [cell_of hh]; rfl
theorem ItAt.hfroz {w : World} {ib g cap : Nat} {st : List Fr} (h : ItAt w ib g cap st) (i : Nat) : w.frozen? ⟨ib, i, none⟩ = false := by
  obtain ⟨ty, hh⟩ := h.hdr
  exact frozen_of hh i

set_option maxRecDepth 100000 in
theorem next_down (w : World) (ib g cap b : Nat) (a : Pl) (l r : Tr) (fs : List Fr) (hr : r ≠ .nil) (h : ItAt w ib g cap ((true, .node b 0 a l r) :: fs)) :
    Calls Try.prog 82 #[.pointer (some ⟨ib, 0, none⟩)] w (NextPost w ib g cap b (toL r ++ rest fs)) := by
  have hc := h.chain
  obtain ⟨br, fr⟩ := node_ptr hc.2.1.inn.2.2.2 hr
  obtain ⟨t0, t1, t2, t3, t4, tf⟩ := nodeAt hc.2.1.inn.2.1
  rw [fr] at t1
  have c0 := h.hcell
  have ct := h.top
  simp only [List.length_cons, Deep.BT.ptr] at c0 ct
  obtain ⟨cur, _, k1, k2, _, _⟩ := h.rowB
  simp only [List.length_cons] at k1
  unfold maxLen at k2
  have HL : Hid (Calls Try.prog 94 #[.pointer (some ⟨ib, 0, none⟩), r.ptr] w (LeftPost w ib g cap (spine r ((false, .node b 0 a l r) :: fs)))) := by
    have a1 := hc.2.1.avl.1
    have a2 := Avl.ht_nonneg hc.2.1.avl.2.2.2.1
    have a3 := hc.2.2.1
    simp only [ht_node] at a3
    obtain ⟨s1, s2, _⟩ := hc.2.1.srt.parts
    exact leftmost_any w ib g cap _ r h.flag ⟨hc.2.1.inn.2.2.2, hc.2.1.avl.2.2.2.2, s2, hc.2.1.dat.2.2⟩ (by simp only [List.length_cons]; omega) (fun f P fs' e => by cases e; rfl)
  rw [fr] at HL
  clear t0 t2 t3 t4 tf hc h
  generalize hn : fs.length = n at c0 ct k1
  have hz : (((n + 1 : Nat) : Int) == 0) = false := by simp; omega
  have hn1 : ((n + 1 : Nat) : Int) - 1 = n := by omega
  clear hn
  go_enter Try.func82, Try.ntmps82
  go_wp2_with fail
  refine HL.out.mono ?_
  rintro e w1 ⟨rfl, g1, g2⟩
  have HG := hid0 (And.intro g1 g2)
  clear g1 g2
  go_wp2
  go_ret
  refine ⟨rfl, HG.out.2, _, HG.out.1, spine_good _ _ (fun e => absurd e hr), ?_⟩
  rw [rest_spine, rest]
  rfl

theorem left_ne_right {w : World} {b : Nat} {a : Pl} {l r : Tr} (hi : In w (.node b 0 a l r)) (hs : Srt (toL (.node b 0 a l r))) (hl : l ≠ .nil) : l.ptr ≠ r.ptr := fun e => by
  obtain ⟨s1, s2, s3, s4, _⟩ := hs.parts
  cases l with
  | nil => exact hl rfl
  | node bl ol al ll lr =>
    obtain ⟨rfl, hb, _⟩ := hi.2.2.1
    have hk := s3 (al.1, al.2.1) (by rw [toL_node]; simp)
    exact hi.2.2.2.not_blk hb (fun v hv => by have := s4 _ hv; simp at this hk; omega) (ptr_blk e.symm)

set_option maxRecDepth 100000 in
theorem next_up (w : World) (ib g cap b : Nat) (a : Pl) (l : Tr) (fs : List Fr) (h : ItAt w ib g cap ((true, .node b 0 a l .nil) :: fs)) :
    Calls Try.prog 82 #[.pointer (some ⟨ib, 0, none⟩)] w (NextPost w ib g cap b (rest fs)) := by
  have hc := h.chain
  obtain ⟨t0, t1, t2, t3, t4, tf⟩ := nodeAt hc.2.1.inn.2.1
  simp only [Deep.BT.ptr] at t1
  have c0 := h.hcell
  have cf := h.hfroz
  have ct := h.top
  simp only [List.length_cons, Deep.BT.ptr] at c0 ct
  obtain ⟨cur, _, k1, k2, _, _⟩ := h.rowB
  simp only [List.length_cons] at k1
  unfold maxLen at k2
  have HH := hid0 h
  clear t0 t2 t3 t4 tf hc h
  obtain ⟨n, hn⟩ : ∃ n, fs.length = n := ⟨_, rfl⟩
  have HN := hid0 hn
  rw [hn] at c0 ct k1
  have hz : (((n + 1 : Nat) : Int) == 0) = false := by simp; omega
  have hn1 : ((n + 1 : Nat) : Int) - 1 = n := by omega
  obtain ⟨R, hR⟩ : ∃ R, R = rest fs := ⟨_, rfl⟩
  rw [← hR]
  have HRR := hid0 hR
  clear hn hR
  go_enter Try.func82, Try.ntmps82
  go_wp2
  go_loopg [3, 5] n (fun m lv y wr => ∃ (fs' : List Fr) (Y : Tr), m = fs'.length ∧ lv = .int .i64 fs'.length ∧ y = Y.ptr ∧ Y ≠ .nil ∧ In wr Y ∧ Link fs' Y ∧ ItAt wr ib g cap fs' ∧ R = rest fs' ∧ Kept (Two ib g) w wr)
  case atStart =>
    have hp := HH.out.pop
    have hK : Kept (Two ib g) w (w.setCell ⟨ib, 0, none⟩ (.slice (some ⟨g, 0, none⟩) fs.length cap)) := (Kept.refl _ _).setCell _ _ (fun _ => .inl rfl)
    rw [HN.out] at hp hK
    exact ⟨fs, .node b 0 a l .nil, HN.out.symm, by rw [HN.out], rfl, by simp, HH.out.chain.2.1.inn.kept hK (HH.out.apart HH.out.chain.2.1.inn), HH.out.chain.2.2.2.1, hp, HRR.out, hK⟩
  case round =>
    obtain ⟨fs', Y, rfl, rfl, rfl, hY, hYi, hYl, hit, hrs, hK⟩ := hrel
    have HR := hid0 (And.intro hY (And.intro hYi (And.intro hYl (And.intro hit (And.intro hrs hK)))))
    clear c0 cf ct t1 hz hn1 k1
    cases fs' with
    | nil =>
      clear hY hYi hYl hit hrs hK
      go_wp2
      go_ret
      obtain ⟨_, _, _, r4, r5, r6⟩ := HR.out
      exact ⟨rfl, r6, [], r4, (fun f fs e => by cases e), r5.symm⟩
    | cons f fs' =>
      obtain ⟨f, P⟩ := f
      have hc := hit.chain
      cases P with
      | nil => exact absurd rfl hc.1
      | node bp op ap lp rp =>
      obtain ⟨rfl, hbp, hilp, hirp⟩ := hc.2.1.inn
      obtain ⟨t0, t1, t2, t3, t4, tf⟩ := nodeAt hbp
      have c0 := hit.hcell
      have cf := hit.hfroz
      have ct := hit.top
      simp only [List.length_cons, Deep.BT.ptr] at c0 ct
      obtain ⟨_, _, k1, _, _, _⟩ := hit.rowB
      obtain ⟨ur, fr⟩ := ptr_form rp
      obtain ⟨uy, fy⟩ := ptr_form Y
      rw [fr] at t1
      rw [fy]
      simp only [List.length_cons] at k1
      have hlk := hYl f _ fs' rfl
      cases f with
      | false =>
        have hq := run_eq_tr hYi hirp (by rw [show rp = Y from hlk]) fy fr
        clear hY hYi hYl hit hrs hK hc hbp hilp hirp t0 t2 t3 t4 tf hlk
        obtain ⟨m, hm⟩ : ∃ m, fs'.length = m := ⟨_, rfl⟩
        have HM := hid0 hm
        simp only [List.length_cons]
        rw [hm] at c0 ct k1 ⊢
        have hn1 : ((m + 1 : Nat) : Int) - 1 = m := by omega
        have hpos : (0 : Int) < ((m + 1 : Nat) : Int) := by omega
        clear hm
        go_wp2
        go_roundg m
        case measure => rw [← HM.out]; simp
        case rel =>
          obtain ⟨r1, r2, r3, r4, r5, r6⟩ := HR.out
          have hp := r4.pop
          have hK : Kept (Two ib g) wr (wr.setCell ⟨ib, 0, none⟩ (.slice (some ⟨g, 0, none⟩) fs'.length cap)) := (Kept.refl (Two ib g) _).setCell _ _ (fun _ => .inl rfl)
          rw [HM.out] at hp hK
          exact ⟨fs', .node bp 0 ap lp rp, HM.out.symm, by rw [HM.out], rfl, by simp, r4.chain.2.1.inn.kept hK (r4.apart r4.chain.2.1.inn), r4.chain.2.2.2.1, hp, r5, r6.trans hK⟩
      | true =>
        have hq := run_neq_tr hYi hirp (by rw [← show lp = Y from hlk]; exact left_ne_right ⟨rfl, hbp, hilp, hirp⟩ hc.2.1.srt (by rw [show lp = Y from hlk]; exact hY)) fy fr
        clear hY hYi hYl hit hrs hK hc hbp hilp hirp t0 t2 t3 t4 tf hlk
        obtain ⟨m, hm⟩ : ∃ m, fs'.length = m := ⟨_, rfl⟩
        have HM := hid0 hm
        simp only [List.length_cons]
        rw [hm] at c0 ct k1 ⊢
        have hn1 : ((m + 1 : Nat) : Int) - 1 = m := by omega
        have hpos : (0 : Int) < ((m + 1 : Nat) : Int) := by omega
        clear hm
        go_wp2
        go_ret
        obtain ⟨_, _, _, r4, r5, r6⟩ := HR.out
        exact ⟨rfl, r6, _, r4, (fun f fs e => by cases e; rfl), r5.symm⟩

theorem next_any (w : World) (ib g cap : Nat) (st : List Fr) (h : ItAt w ib g cap st) (hg : Good st) (x : Int × Value) (xs : List (Int × Value)) (hr : rest st = x :: xs) :
    Calls Try.prog 82 #[.pointer (some ⟨ib, 0, none⟩)] w (fun e w' => ∃ b l r hh, NextPost w ib g cap b xs e w' ∧ w.heap[b]? = some (nodeObj l r x.2 x.1 hh) ∧ ((∃ t v, x.2 = .iface t v) ∨ x.2 = .nilIface)) := by
  cases st with
  | nil => cases hr
  | cons f fs =>
    obtain ⟨f, T⟩ := f
    obtain rfl : f = true := hg _ _ rfl
    cases T with
    | nil => exact absurd rfl h.chain.1
    | node b o a l r =>
      obtain ⟨rfl, hb, _⟩ := h.chain.2.1.inn
      have hd := h.chain.2.1.dat.1
      simp only [rest, own1, List.cons_append, List.cons.injEq] at hr
      obtain ⟨rfl, rfl⟩ := hr
      by_cases e : r = .nil
      · subst e
        exact (next_up w ib g cap b a l fs h).mono fun e w' hp => ⟨b, _, _, _, hp, hb, hd⟩
      · exact (next_down w ib g cap b a l r fs e h).mono fun e w' hp => ⟨b, _, _, _, hp, hb, hd⟩

theorem rest_nil {w : World} {ib g cap : Nat} {st : List Fr} (h : ItAt w ib g cap st) (hg : Good st) : rest st = [] ↔ st = [] := by
  constructor
  · intro e
    cases st with
    | nil => rfl
    | cons f fs =>
      obtain ⟨f, T⟩ := f
      obtain rfl : f = true := hg _ _ rfl
      cases T with
      | nil => exact absurd rfl h.chain.1
      | node b o a l r => simp [rest, own1] at e
  · rintro rfl; rfl

end Go.Proofs.Ytehegllgaiehfaa
