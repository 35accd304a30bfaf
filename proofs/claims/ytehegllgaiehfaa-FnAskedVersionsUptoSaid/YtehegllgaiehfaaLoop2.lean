/- spec.Tree and spec.Same. -/
import Derived.Test.YtehegllgaiehfaaLoop1
namespace Go.Proofs.Ytehegllgaiehfaa
open Go.RowKit

/-- the data are numbers of 64 bits -/
def DataR (ps : List (Int × Int)) : Prop := ∀ p ∈ ps, -9223372036854775808 ≤ p.2 ∧ p.2 ≤ 9223372036854775807

/-- the keys are numbers of 32 bits -/
def KeysW (ps : List (Int × Int)) : Prop := ∀ p ∈ ps, -2147483648 ≤ p.1 ∧ p.1 ≤ 2147483647
theorem KeysOk.wide {ps : List (Int × Int)} (h : KeysOk ps) : KeysW ps := fun p hp => ⟨by have := h p hp; omega, (h p hp).2⟩
theorem KeysW.ok {ps : List (Int × Int)} (h : KeysW ps) (hk : keyedB ps = true) : KeysOk ps := fun p hp => by
  have h1 := h p hp
  have h2 := List.all_eq_true.1 hk p hp
  simp at h2
  omega
theorem put_srt {xs : List (Int × Int)} (h : xs.Pairwise fun a b => a.1 < b.1) (x d : Int) : (put x d xs).Pairwise fun a b => a.1 < b.1 := by
  unfold put
  rw [List.pairwise_append, List.pairwise_cons]
  refine ⟨h.filter _, ⟨fun c hc => by simpa using (List.mem_filter.1 hc).2, h.filter _⟩, fun c hc c' hc' => ?_⟩
  have h1 : c.1 < x := by simpa using (List.mem_filter.1 hc).2
  rcases List.mem_cons.1 hc' with rfl | hc'
  · exact h1
  · have h2 : x < c'.1 := by simpa using (List.mem_filter.1 hc').2
    omega
theorem put_mem {xs : List (Int × Int)} {x d : Int} {a : Int × Int} (h : a ∈ put x d xs) : a = (x, d) ∨ a ∈ xs := by
  unfold put at h
  rcases List.mem_append.1 h with h | h
  · exact .inr (List.mem_filter.1 h).1
  · rcases List.mem_cons.1 h with h | h
    · exact .inl h
    · exact .inr (List.mem_filter.1 h).1
theorem treeP_wide {ps : List (Int × Int)} (h : KeysW ps) : ∀ k, (treeP (ps.take k)).Pairwise (fun a b => a.1 < b.1) ∧ KeysW (treeP (ps.take k))
  | 0 => by simp [treeP, KeysW]
  | k + 1 => by
    by_cases hlt : k < ps.length
    · rw [treeP_snoc ps k hlt]
      obtain ⟨h1, h2⟩ := treeP_wide h k
      refine ⟨put_srt h1 _ _, fun a ha => ?_⟩
      rcases put_mem ha with rfl | ha
      · exact h _ (List.getElem_mem hlt)
      · exact h2 a ha
    · have := treeP_wide h k
      rwa [List.take_of_length_le (by omega)] at this ⊢
theorem wide_length {xs : List (Int × Int)} (h1 : xs.Pairwise (fun a b => a.1 < b.1)) (h2 : KeysW xs) : xs.length ≤ 4294967296 := by
  have := rising_length xs (-2147483648) 2147483647 h1 h2 (by omega)
  omega
theorem treeP_len {ps : List (Int × Int)} (h : KeysW ps) (k : Nat) : (treeP (ps.take k)).length ≤ 4294967296 := wide_length (treeP_wide h k).1 (treeP_wide h k).2

theorem Tree_any (w : World) (v : Value) (ps : List (Int × Int)) (h : SlP w v ps) (hl : ps.length ≤ 8796093022208) (hok : KeysW ps) :
    Calls Try.prog 16 #[v] w (NewP w (treeP ps)) := by
  obtain ⟨a, cap, rfl⟩ := h.form
  have HS := hid h
  have HO := hid hok
  clear h hok
  go_enter Try.func16, Try.ntmps16
  go_wp2
  go_loopg [3, 8] (ps.length) (fun n o i wr => ∃ k : Nat, k + n = ps.length ∧ i = .int .i64 k ∧ Kept Non w wr ∧ OwnP w.heap.size wr o (treeP (ps.take k)))
  case atStart => exact ⟨0, by simp, rfl, Kept.refl _ _, Own.nil _⟩
  case round =>
    obtain ⟨k, hk, rfl, hK, hH⟩ := hrel
    have HK := hid (And.intro hK hH)
    clear hH
    by_cases hlt : k < ps.length
    · obtain ⟨b, off, rfl, _, c0, c1⟩ := HS.out.pair hK k hlt
      clear hK
      go_wp2_with fail
      refine (Put_any _ _ (treeP (ps.take k)) _ _ (OwnP.sl (HK.out.2.alloc _)) (treeP_len HO.out k)).mono ?_
      rintro e W1 ⟨v1, rfl, g1, g2⟩
      have HG := hid (And.intro g1 g2)
      clear g1 g2
      go_wp2
      go_roundg (gk - 1)
      case measure => omega
      case rel =>
        refine ⟨k + 1, by omega, by go_num, (HK.out.1.alloc _).trans HG.out.2, ?_⟩
        rw [treeP_snoc ps k hlt]; exact HG.out.1.mono (by simp; have := HK.out.1.size; omega)
    · have HKK := hid hk
      clear hK
      go_wp2
      go_ret
      refine ⟨_, rfl, ?_, HK.out.1⟩
      have := HK.out.2
      rwa [List.take_of_length_le (by omega)] at this

end Go.Proofs.Ytehegllgaiehfaa
