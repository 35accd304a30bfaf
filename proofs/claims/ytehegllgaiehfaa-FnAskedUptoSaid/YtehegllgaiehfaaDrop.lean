/- spec.Drop. -/
import Derived.Test.YtehegllgaiehfaaLoop2
import Derived.Test.YtehegllgaiehfaaTree3
namespace Go.Proofs.Ytehegllgaiehfaa
open Go.RowKit

set_option maxRecDepth 100000 in
theorem Drop_any (w : World) (v : Value) (ps : List (Int × Int)) (x : Int) (h : SlP w v ps) (hl : ps.length ≤ 8796093022208) :
    Calls Try.prog 70 #[v, .int .i32 x] w (NewP w (drop x ps)) := by
  obtain ⟨a, cap, rfl⟩ := h.form
  have HS := hid h
  clear h
  go_enter Try.func70, Try.ntmps70
  go_wp2
  go_loopg [5, 10] (ps.length) (fun n o i wr => ∃ k : Nat, k + n = ps.length ∧ i = .int .i64 k ∧ Kept Non w wr ∧ OwnP w.heap.size wr o ((ps.take k).filter fun a => a.1 != x))
  case atStart => exact ⟨0, by simp, rfl, Kept.refl _ _, Own.nil _⟩
  case round =>
    obtain ⟨k, hk, rfl, hK, hO⟩ := hrel
    have HK := hid (And.intro hK hO)
    clear hO
    by_cases hlt : k < ps.length
    · obtain ⟨b, off, rfl, _, c0, c1⟩ := HS.out.pair hK k hlt
      have hb : w.heap.size ≤ wr.heap.size := hK.size
      have HL : Hid (((ps.take k).filter fun a => a.1 != x).length + 1 ≤ 8796093022208) := by
        have h1 := List.length_filter_le (fun a : Int × Int => a.1 != x) (ps.take k)
        have h2 := List.length_take_le k ps
        show _ ≤ _
        omega
      clear hK
      by_cases hx : ps[k].1 = x
      · have hx' : (ps[k].1 == x) = true := by simpa using hx
        have HX := hid hx
        clear hx
        go_wp2
        go_roundg (gk - 1)
        case measure => omega
        case rel => exact ⟨k + 1, by omega, by go_num, HK.out.1.alloc _, by rw [filter_take hlt, if_neg (by simpa using HX.out), List.append_nil]; exact HK.out.2.alloc _⟩
      · have hx' : (ps[k].1 == x) = false := by simpa using hx
        have HX := hid hx
        clear hx
        go_wp2_with (at_builtin; refine wpList_app rfl (.tmp 18) (.tmp 20) rfl tyP pc_enc w.heap.size _ _ rfl ((HK.out.2.alloc _).alloc _) (wr.heap.size + 1) ps[k] rfl (new_cells (cs := pc ps[k]) (by simp)) (by have := HL.out; omega) (by decide) (by simp; omega) ?_)
        intro v' w1 g1 g2
        have HG := hid (And.intro g1 g2)
        clear g1 g2
        go_wp2
        go_roundg (gk - 1)
        case measure => omega
        case rel => exact ⟨k + 1, by omega, by go_num, ((HK.out.1.alloc _).alloc _).newer HG.out.2, by rw [filter_take hlt, if_pos (by simpa using HX.out)]; exact HG.out.1⟩
    · have HE : Hid (ps.take k = ps) := List.take_of_length_le (by omega)
      clear hK
      go_wp2
      go_ret
      exact ⟨_, rfl, by have := HK.out.2; rw [HE.out] at this; exact this, HK.out.1⟩

theorem drop_min {xs : List (Int × Int)} (h : xs.Pairwise fun a b => a.1 < b.1) (k : Int) (hk : ∀ a, xs.head? = some a → k = a.1) : drop k xs = xs.tail := by
  cases xs with
  | nil => rfl
  | cons a xs =>
    obtain ⟨h1, h2⟩ := List.pairwise_cons.1 h
    rw [hk a rfl, drop, List.filter_cons_of_neg (by simp), filter_all (fun c hc => by have := h1 c hc; simp; omega)]
    rfl
theorem drop_max {xs : List (Int × Int)} (h : xs.Pairwise fun a b => a.1 < b.1) (k : Int) (hk : ∀ a, xs.getLast? = some a → k = a.1) : drop k xs = xs.dropLast := by
  cases hl : xs.getLast? with
  | none =>
    rw [List.getLast?_eq_none_iff] at hl
    subst hl
    rfl
  | some a =>
    obtain ⟨ys, rfl⟩ := List.getLast?_eq_some_iff.1 hl
    obtain ⟨h1, _, h3⟩ := List.pairwise_append.1 h
    rw [hk a hl, drop, List.filter_append, List.filter_cons_of_neg (by simp), filter_all (fun c hc => by have := h3 c hc a (by simp); simp; omega)]
    simp

end Go.Proofs.Ytehegllgaiehfaa
