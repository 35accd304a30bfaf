/- impl.Iterate. -/
import Derived.Test.YtlmbgkgnbebkiaaFs
import Derived.Test.YtlmbgkgnbebkiaaSt
namespace Go.Proofs.Ytlmbgkgnbebkiaa
open Go.RowKit

theorem OwnF.form {base : Nat} {w : World} {v : Value} {fs : List Fd} (h : OwnF base w v fs) : ∃ a cap, v = .slice a fs.length cap := (OwnF.sl h).form

theorem Own.cap {α : Type} {sz : Nat} {enc : α → List Value} {E base : Nat} {w : World} {a : Option Addr} {n cap : Nat} {xs : List α} (h : Own sz enc E base w (.slice a n cap) xs) : n ≤ cap := by
  obtain ⟨_, h2⟩ := h.own
  rcases h2 with ⟨hv, _⟩ | ⟨g, cap', cur, hv, _, _, hc, _⟩
  · cases hv; exact Nat.le_refl _
  · cases hv; exact hc
theorem Sl.take {α : Type} {sz : Nat} {enc : α → List Value} {w : World} {a : Option Addr} {n cap : Nat} {xs : List α} (h : Sl sz enc w (.slice a n cap) xs) (k : Nat) (hk : k ≤ xs.length) : Sl sz enc w (.slice a k cap) (xs.take k) := by
  obtain ⟨a', cap', hv, hc⟩ := h.ex
  cases hv
  refine ⟨a, cap, by rw [List.length_take, Nat.min_eq_left hk], fun i x hx => hc i x ?_⟩
  rw [List.getElem?_take] at hx
  split at hx
  · exact hx
  · cases hx

set_option maxRecDepth 100000 in
set_option maxHeartbeats 1000000 in
theorem Iterate_any (w : World) (v : Value) (ps : Ps) (most : Int) (hmr : -9223372036854775808 ≤ most ∧ most ≤ 9223372036854775807) (h : SlP w v ps) (hl : ps.length ≤ 8796093022208) (hok : KeysOk ps) :
    Calls Try.prog 20 #[v, .int .i64 most] w (fun e w' => ∃ v', e = .returned (.tuple #[v', .bool ((treeP ps).drop most.toNat).isEmpty]) ∧ OwnF w.heap.size w' v' (((treeP ps).take most.toNat).map tf) ∧ Kept Non w w') := by
  have HT := hid0 (tree_any w v ps h hl hok)
  have hlen : (treeP ps).length ≤ 4294967296 := by
    have := Ok.length (treeP_ok hok ps.length)
    rw [List.take_length] at this
    omega
  obtain ⟨xs, hxs⟩ : ∃ xs, xs = treeP ps := ⟨_, rfl⟩
  rw [← hxs] at HT hlen ⊢
  clear h hok hxs
  go_enter Try.func20, Try.ntmps20
  go_wp2_with fail
  refine HT.out.mono ?_
  rintro e w1 ⟨b, rfl, hb, g1, g2⟩
  have HG := hid0 (And.intro g1 g2)
  clear g1 g2 hb
  go_wp2_with fail
  refine (TIterator_any _ b 0 xs HG.out.1.at).mono ?_
  rintro e w2 ⟨v2, g, st, rfl, i1, i2, i3, i4, i5, i6⟩
  obtain ⟨a2, n2, k2, rfl⟩ := i3.form
  have hk2 : Kept Non w2 (w2.alloc (.cells #[.slice a2 n2 k2] 78)) := (Kept.refl _ _).alloc _
  have hit : Itr (w2.alloc (.cells #[.slice a2 n2 k2] 78)) w2.heap.size g xs := ⟨st, RowV.it (i3.ext hk2 (fun h => h) (fun _ _ _ _ h => h)) (alloc_new _ _) (by omega), i4, i5⟩
  have hg : w.heap.size ≤ g ∧ g < w2.heap.size := ⟨Nat.le_trans HG.out.2.size i1, i2⟩
  have hw2 : w.heap.size ≤ w2.heap.size := by omega
  have HI := hid0 (And.intro hit ((HG.out.2.trans i6).trans hk2))
  clear i1 i2 i3 i4 i5 i6 hk2 hit
  go_wp2
  go_loopg [7] (xs.length) (fun n o wr => ∃ (qs rs : Ps), n = rs.length ∧ xs = qs ++ rs ∧ (qs.length : Int) ≤ max most 0 ∧ Itr wr w2.heap.size g rs ∧ OwnF (w2.heap.size + 1) wr o (qs.map tf) ∧ Kept Non w wr ∧ w2.heap.size < wr.heap.size)
  case atStart => exact ⟨[], xs, rfl, rfl, by simp; omega, HI.out.1, Own.nil _, HI.out.2, by simp⟩
  case round =>
    obtain ⟨qs, rs, rfl, hx, hm, hI, hO, hK, hsz⟩ := hrel
    obtain ⟨oa, oc, rfl⟩ : ∃ a c, u7 = .slice a qs.length c := by
      obtain ⟨a, c, e⟩ := OwnF.form hO
      exact ⟨a, c, by rw [e, List.length_map]⟩
    have HX := hid0 (And.intro hx (And.intro hm (And.intro hI (And.intro hO hK))))
    have hql : qs.length + rs.length ≤ 4294967296 := by rw [hx] at hlen; simpa using hlen
    clear hx hI hO hK
    by_cases hlt : (qs.length : Int) < most
    · cases rs with
      | nil =>
        go_wp2_with fail
        refine HX.out.2.2.1.done.mono ?_
        rintro e w' ⟨rfl, hw⟩
        rw [hw]
        clear hw
        simp only [List.isEmpty_nil]
        go_wp2_with fail
        refine HX.out.2.2.1.done.mono ?_
        rintro e w' ⟨rfl, hw⟩
        rw [hw]
        clear hw
        simp only [List.isEmpty_nil]
        go_wp2
        go_ret2
        obtain ⟨hx, hm, hI, hO, hK⟩ := HX.out
        rw [List.append_nil] at hx
        subst hx
        have h1 : xs.length ≤ most.toNat := by omega
        refine ⟨.slice oa xs.length oc, ?_, ?_, hK⟩
        · rw [List.drop_of_length_le h1]; rfl
        · rw [List.take_of_length_le h1]; exact hO.mono (by omega)
      | cons q rs =>
        go_wp2_with fail
        refine HX.out.2.2.1.done.mono ?_
        rintro e w' ⟨rfl, hw⟩
        rw [hw]
        clear hw
        simp only [List.isEmpty_cons]
        go_wp2_with fail
        refine HX.out.2.2.1.next.mono ?_
        rintro e w3 ⟨rfl, n1, n2, n3⟩
        have hO3 := HX.out.2.2.2.1.ext n2 (fun c hc e => by rcases e with e | e <;> omega)
        have hK3 := HX.out.2.2.2.2.trans' n2 (fun c hc e => by rcases e with e | e <;> omega)
        have hs3 := n2.size
        have HN := hid0 (And.intro n1 (And.intro hO3 hK3))
        clear n1 n2 n3 hO3 hK3
        go_wp2_with fail
        refine (found_some _ q.1 q.2).mono ?_
        rintro e w4 ⟨rfl, g4⟩
        have hs4 := g4.size
        have HN4 := hid0 (And.intro (HN.out.1.ext g4) (And.intro (HN.out.2.1.ext' g4) (HN.out.2.2.trans g4)))
        clear g4
        simp only [fv]
        have HL : Hid ((qs.map tf).length + 1 ≤ 4294967297) := by
          show _ ≤ _
          rw [List.length_map]
          simp at hql
          omega
        go_wp2_with (at_builtin; refine wpList_app2 rfl (.tmp 19) (.tmp 24) rfl tyF fc_enc (w2.heap.size + 1) _ _ rfl (HN4.out.2.1.alloc _) w4.heap.size (tf q) rfl (new_cells (cs := fc (tf q)) (by simp)) (by have := HL.out; omega) (by decide) (by simp; omega) ?_)
        intro v' w5 g1 g2
        have hs5 := g2.size
        have hK5 : Kept Non w w5 := (HN4.out.2.2.alloc _).trans' g2 (fun i hi e => by have := HN4.out.2.1.block i e; omega)
        have hI5 : Itr w5 w2.heap.size g rs := (HN4.out.1.ext ((Kept.refl _ _).alloc _)).kept g2 (HN4.out.2.1.old (by omega)) (HN4.out.2.1.old (by omega)) ((HN4.out.2.1.alloc _).not_blk (by decide))
        have HG5 := hid0 (And.intro g1 (And.intro hK5 hI5))
        simp at hs5
        clear g1 g2 hK5 hI5
        go_wp2
        go_roundg (rs.length)
        case measure => simp
        case rel => exact ⟨qs ++ [q], rs, rfl, by rw [HX.out.1]; simp, by simp; omega, HG5.out.2.2, by rw [List.map_append]; exact HG5.out.1, HG5.out.2.1, by omega⟩
    · go_wp2_with fail
      refine HX.out.2.2.1.done.mono ?_
      rintro e w' ⟨rfl, hw⟩
      rw [hw]
      clear hw
      obtain ⟨R, hR⟩ : ∃ R, R = rs.isEmpty := ⟨_, rfl⟩
      rw [← hR]
      have HR := hid0 hR
      clear hR
      go_wp2
      go_ret2
      obtain ⟨hx, hm, hI, hO, hK⟩ := HX.out
      have h1 : most.toNat = qs.length := by omega
      subst hx
      refine ⟨.slice oa qs.length oc, ?_, ?_, hK⟩
      · rw [h1, List.drop_left, ← HR.out]; rfl
      · rw [h1, List.take_left]; exact hO.mono (by omega)

end Go.Proofs.Ytlmbgkgnbebkiaa
