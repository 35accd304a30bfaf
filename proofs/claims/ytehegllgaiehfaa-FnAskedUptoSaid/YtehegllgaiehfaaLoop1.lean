/- keyed, impl.tree, spec.Put, spec.Tree: loops over a slice of pairs. -/
import Derived.Test.YtehegllgaiehfaaSl
namespace Go.Proofs.Ytehegllgaiehfaa
open Go.RowKit

/-- no pair has the key that stands for none -/
def keyedB (ps : List (Int × Int)) : Bool := ps.all fun p => p.1 != -2147483648

theorem all_take_succ {α : Type} {p : α → Prop} {xs : List α} {k : Nat} (hlt : k < xs.length) (h : ∀ a ∈ xs.take k, p a) (hk : p xs[k]) : ∀ a ∈ xs.take (k + 1), p a := fun a ha => by
  rw [List.take_succ_eq_append_getElem hlt] at ha
  rcases List.mem_append.1 ha with ha | ha
  · exact h a ha
  · simp at ha; subst ha; exact hk

theorem keyed_any (w : World) (v : Value) (ps : List (Int × Int)) (h : SlP w v ps) (hl : ps.length ≤ 8796093022208) :
    Calls Try.prog 9 #[v] w fun e w' => e = .returned (.bool (keyedB ps)) ∧ Kept Non w w' := by
  obtain ⟨a, cap, rfl⟩ := h.form
  have HS := hid h
  clear h
  go_enter Try.func9, Try.ntmps9
  go_wp2
  go_loopg [7] (ps.length) (fun n i wr => ∃ k : Nat, k + n = ps.length ∧ i = .int .i64 k ∧ Kept Non w wr ∧ ∀ p ∈ ps.take k, (p.1 != -2147483648) = true)
  case atStart => exact ⟨0, by simp, rfl, Kept.refl _ _, by simp⟩
  case round =>
    obtain ⟨k, hk, rfl, hK, hall⟩ := hrel
    have HK := hid (And.intro hK hall)
    clear hall
    by_cases hlt : k < ps.length
    · obtain ⟨b, off, rfl, _, c0, c1⟩ := HS.out.pair hK k hlt
      clear hK
      by_cases hx : ps[k].1 = -2147483648
      · have hx' : (ps[k].1 == -2147483648) = true := by simpa using hx
        have HX := hid hx
        clear hx
        go_wp2
        go_ret
        refine ⟨?_, HK.out.1.alloc _⟩
        have : keyedB ps = false := by
          rw [keyedB, List.all_eq_false]
          exact ⟨ps[k], List.getElem_mem hlt, by rw [HX.out]; decide⟩
        rw [this]; rfl
      · have hx' : (ps[k].1 == -2147483648) = false := by simpa using hx
        have HX := hid hx
        clear hx
        go_wp2
        go_roundg (gk - 1)
        case measure => omega
        case rel => exact ⟨k + 1, by omega, by go_num, HK.out.1.alloc _, all_take_succ hlt HK.out.2 (by simpa using HX.out)⟩
    · have HKK := hid hk
      clear hK
      go_wp2
      go_ret
      refine ⟨?_, HK.out.1⟩
      have : keyedB ps = true := by
        rw [keyedB, List.all_eq_true]
        intro p hp
        exact HK.out.2 p (by rw [List.take_of_length_le (by omega)]; exact hp)
      rw [this]; rfl

/-- the sorted pairs of a list, the last one with a key counting -/
def treeP (ps : List (Int × Int)) : List (Int × Int) := ps.foldl (fun s p => put p.1 p.2 s) []
theorem treeP_snoc (ps : List (Int × Int)) (k : Nat) (h : k < ps.length) : treeP (ps.take (k + 1)) = put ps[k].1 ps[k].2 (treeP (ps.take k)) := by
  rw [List.take_succ_eq_append_getElem h, treeP, List.foldl_append]; rfl

/-- pairs of which a tree can be made -/
def KeysOk (ps : List (Int × Int)) : Prop := ∀ p ∈ ps, -2147483648 < p.1 ∧ p.1 ≤ 2147483647
theorem treeP_ok {ps : List (Int × Int)} (h : KeysOk ps) : ∀ k, Ok (treeP (ps.take k))
  | 0 => by simpa [treeP] using Ok.nil
  | k + 1 => by
    by_cases hlt : k < ps.length
    · rw [treeP_snoc ps k hlt]
      exact (treeP_ok h k).put _ _ (h _ (List.getElem_mem hlt))
    · have := treeP_ok h k
      rwa [List.take_of_length_le (by omega)] at this ⊢

theorem Head.ext {w w' : World} {b : Nat} {xs : List (Int × Int)} (h : Head w b xs) (hk : Kept Non w w') : Head w' b xs := by
  obtain ⟨T, hb, hg⟩ := h.ex
  exact ⟨T, (hk.block b (block_lt hb) (fun h => h)).trans hb, hg.ext hk⟩
theorem Head.lt {w : World} {b : Nat} {xs : List (Int × Int)} (h : Head w b xs) : b < w.heap.size := by
  obtain ⟨T, hb, hg⟩ := h.ex
  exact block_lt hb
theorem Head.empty {w : World} {b : Nat} (h : w.heap[b]? = some (.cells #[.pointer none, .int .i64 0] 78 (0, 0))) : Head w b [] := ⟨.nil, h, ⟨trivial, trivial, rfl, Ok.nil⟩⟩

def NewTree (w : World) (xs : List (Int × Int)) (e : Ending) (w' : World) : Prop := ∃ b, e = .returned (.pointer (some ⟨b, 0, none⟩)) ∧ w.heap.size ≤ b ∧ Head w' b xs ∧ Kept Non w w'

theorem tree_any (w : World) (v : Value) (ps : List (Int × Int)) (h : SlP w v ps) (hl : ps.length ≤ 8796093022208) (hok : KeysOk ps) :
    Calls Try.prog 28 #[v] w (NewTree w (treeP ps)) := by
  obtain ⟨a, cap, rfl⟩ := h.form
  have HS := hid h
  have HO := hid hok
  clear h hok
  go_enter Try.func28, Try.ntmps28
  go_wp2
  go_loopg [10] (ps.length) (fun n i wr => ∃ k : Nat, k + n = ps.length ∧ i = .int .i64 k ∧ Kept Non w wr ∧ Head wr w.heap.size (treeP (ps.take k)))
  case atStart => exact ⟨0, by simp, rfl, (Kept.refl _ _).alloc _, Head.empty (alloc_new _ _)⟩
  case round =>
    obtain ⟨k, hk, rfl, hK, hH⟩ := hrel
    have HK := hid (And.intro hK hH)
    clear hH
    by_cases hlt : k < ps.length
    · obtain ⟨b, off, rfl, _, c0, c1⟩ := HS.out.pair hK k hlt
      clear hK
      go_wp2_with fail
      refine (TInsert_any _ w.heap.size (treeP (ps.take k)) _ _ (HO.out _ (List.getElem_mem hlt)) (HK.out.2.ext ((Kept.refl _ _).alloc _))).mono ?_
      rintro e W1 ⟨rfl, g1, g2⟩
      have HG := hid (And.intro g1 g2)
      clear g1 g2
      go_wp2
      go_roundg (gk - 1)
      case measure => omega
      case rel =>
        refine ⟨k + 1, by omega, by go_num, ?_, ?_⟩
        · exact (HK.out.1.alloc _).trans' HG.out.2 (fun i hi h => absurd hi (by rw [show i = w.heap.size from h]; exact Nat.lt_irrefl _))
        · rw [treeP_snoc ps k hlt]; exact HG.out.1
    · have HKK := hid hk
      clear hK
      go_wp2
      go_ret
      refine ⟨w.heap.size, rfl, Nat.le_refl _, ?_, HK.out.1⟩
      have := HK.out.2
      rwa [List.take_of_length_le (by omega)] at this


def NewP (w : World) (xs : List (Int × Int)) (e : Ending) (w' : World) : Prop := ∃ v, e = .returned v ∧ OwnP w.heap.size w' v xs ∧ Kept Non w w'
theorem OwnP.sl {base : Nat} {w : World} {v : Value} {xs : List (Int × Int)} (h : OwnP base w v xs) : SlP w v xs := Own.sl (fun p => (pc_enc p).1) h
theorem Kept.newer {w wr w' : World} (h : Kept Non w wr) (h' : Kept (fun k => w.heap.size ≤ k) wr w') : Kept Non w w' := h.trans' h' (fun _ hi hge => absurd hi (Nat.not_lt.2 hge))
theorem filter_take {α : Type} {p : α → Bool} {xs : List α} {k : Nat} (h : k < xs.length) : (xs.take (k + 1)).filter p = (xs.take k).filter p ++ if p xs[k] then [xs[k]] else [] := by
  rw [List.take_succ_eq_append_getElem h, List.filter_append]
  congr 1
  by_cases e : p xs[k] = true <;> simp [e]

set_option maxRecDepth 100000 in
set_option maxHeartbeats 1000000 in
theorem Put_any (w : World) (v : Value) (ps : List (Int × Int)) (x d : Int) (h : SlP w v ps) (hl : ps.length ≤ 4294967296) :
    Calls Try.prog 37 #[v, .int .i32 x, .int .i64 d] w (NewP w (put x d ps)) := by
  obtain ⟨a, cap, rfl⟩ := h.form
  have HS := hid h
  clear h
  go_enter Try.func37, Try.ntmps37
  go_wp2
  go_loopg [7, 14] (ps.length) (fun n o i wr => ∃ k : Nat, k + n = ps.length ∧ i = .int .i64 k ∧ Kept Non w wr ∧ OwnP w.heap.size wr o ((ps.take k).filter fun a => decide (a.1 < x)))
  case atStart => exact ⟨0, by simp, rfl, Kept.refl _ _, Own.nil _⟩
  case round =>
    obtain ⟨k, hk, rfl, hK, hO⟩ := hrel
    have HK := hid (And.intro hK hO)
    clear hO
    by_cases hlt : k < ps.length
    · obtain ⟨b, off, rfl, _, c0, c1⟩ := HS.out.pair hK k hlt
      have hb : w.heap.size ≤ wr.heap.size := hK.size
      have HL : Hid (((ps.take k).filter fun a => decide (a.1 < x)).length ≤ 4294967296) := Nat.le_trans (List.length_filter_le _ _) (Nat.le_trans (List.length_take_le _ _) (by omega))
      clear hK
      by_cases hx : ps[k].1 < x
      · go_wp2_with (at_builtin; refine wpList_app rfl (.tmp 22) (.tmp 24) rfl tyP pc_enc w.heap.size _ _ rfl ((HK.out.2.alloc _).alloc _) (wr.heap.size + 1) ps[k] rfl (new_cells (cs := pc ps[k]) (by simp)) (by have := HL.out; omega) (by decide) (by simp; omega) ?_)
        intro v' w1 g1 g2
        have HG := hid (And.intro g1 g2)
        clear g1 g2
        go_wp2
        go_roundg (gk - 1)
        case measure => omega
        case rel => exact ⟨k + 1, by omega, by go_num, ((HK.out.1.alloc _).alloc _).newer HG.out.2, by rw [filter_take hlt, if_pos (by simpa using hx)]; exact HG.out.1⟩
      · go_wp2
        go_roundg (gk - 1)
        case measure => omega
        case rel => exact ⟨k + 1, by omega, by go_num, HK.out.1.alloc _, by rw [filter_take hlt, if_neg (by simpa using hx), List.append_nil]; exact HK.out.2.alloc _⟩
    · have HL : Hid (((ps.take k).filter fun a => decide (a.1 < x)).length ≤ 4294967296) := Nat.le_trans (List.length_filter_le _ _) (Nat.le_trans (List.length_take_le _ _) (by omega))
      have hb : w.heap.size ≤ wr.heap.size := hK.size
      have HE : Hid (ps.take k = ps) := List.take_of_length_le (by omega)
      clear hK
      go_wp2_with (at_builtin; refine wpList_app rfl (.tmp 27) (.tmp 31) rfl tyP pc_enc w.heap.size _ _ rfl (HK.out.2.alloc _) wr.heap.size (x, d) rfl (new_cells (cs := pc (x, d)) rfl) (by have := HL.out; omega) (by decide) (by simp; omega) ?_)
      intro v1 w1 g1 g2
      have HG := hid (And.intro (((HK.out.1.alloc (.cells #[.int .i32 x, .int .i64 d] 27)).newer g2)) (HE.out ▸ g1))
      clear g1 g2 HK HL HE hb
      go_wp2
      go_loopg [7, 35] (ps.length) (fun n o i wq => ∃ j : Nat, j + n = ps.length ∧ i = .int .i64 j ∧ Kept Non w wq ∧ OwnP w.heap.size wq o ((ps.filter fun a => decide (a.1 < x)) ++ (x, d) :: ((ps.take j).filter fun a => decide (x < a.1))))
      case atStart => exact ⟨0, by simp, rfl, HG.out.1, HG.out.2⟩
      case round =>
        obtain ⟨j, hj, rfl, hK, hO⟩ := hrel
        have HK := hid (And.intro hK hO)
        clear hO
        by_cases hlt : j < ps.length
        · obtain ⟨b, off, rfl, _, c0, c1⟩ := HS.out.pair hK j hlt
          have hb : w.heap.size ≤ wr.heap.size := hK.size
          have HL : Hid (((ps.filter fun a => decide (a.1 < x)) ++ (x, d) :: ((ps.take j).filter fun a => decide (x < a.1))).length ≤ 8589934594) := by
            show _ ≤ _
            have h1 := List.length_filter_le (fun a : Int × Int => decide (a.1 < x)) ps
            have h2 := List.length_filter_le (fun a : Int × Int => decide (x < a.1)) (ps.take j)
            have h3 := List.length_take_le j ps
            simp only [List.length_append, List.length_cons]; omega
          clear hK
          by_cases hx : x < ps[j].1
          · go_wp2_with (at_builtin; refine wpList_app rfl (.tmp 43) (.tmp 45) rfl tyP pc_enc w.heap.size _ _ rfl ((HK.out.2.alloc _).alloc _) (wr.heap.size + 1) ps[j] rfl (new_cells (cs := pc ps[j]) (by simp)) (by have := HL.out; omega) (by decide) (by simp; omega) ?_)
            intro v' w2 g1 g2
            have HG := hid (And.intro g1 g2)
            clear g1 g2
            go_wp2
            go_roundg (gk - 1)
            case measure => omega
            case rel => exact ⟨j + 1, by omega, by go_num, ((HK.out.1.alloc _).alloc _).newer HG.out.2, by rw [filter_take hlt, if_pos (by simpa using hx)]; simpa using HG.out.1⟩
          · go_wp2
            go_roundg (gk - 1)
            case measure => omega
            case rel => exact ⟨j + 1, by omega, by go_num, HK.out.1.alloc _, by rw [filter_take hlt, if_neg (by simpa using hx), List.append_nil]; exact HK.out.2.alloc _⟩
        · have HE : Hid (ps.take j = ps) := List.take_of_length_le (by omega)
          clear hK
          go_wp2
          go_ret
          exact ⟨_, rfl, by have := HK.out.2; rw [HE.out] at this; exact this, HK.out.1⟩
end Go.Proofs.Ytehegllgaiehfaa
