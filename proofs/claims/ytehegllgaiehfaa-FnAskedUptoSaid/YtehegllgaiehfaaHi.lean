/- impl.History, laws.sameAll, laws.told. -/
import Derived.Test.YtehegllgaiehfaaIHist
import Derived.Test.YtehegllgaiehfaaInPl
namespace Go.Proofs.Ytehegllgaiehfaa
open Go.RowKit

/-- versions and what has been told are returned -/
def IHi (w : World) (h : List Ps × List Fd) (e : Ending) (w' : World) : Prop := ∃ o t vals, e = .returned (.tuple #[o, t]) ∧ HsS w w' o (.slice none 0 0) vals h.1 [] ∧ SlF w' t h.2

set_option maxRecDepth 100000 in
set_option maxHeartbeats 1000000 in
theorem IHistory_any (w : World) (v : Value) (ax : List Ac) (h : SlA w v ax) (hl : ax.length ≤ 1599289640400) (hw : ActsW ax) (hpl : Played ax) : Calls Try.prog 20 #[v] w (IHi w (hist ax)) := by
  have HS := hid0 (history_any w v ax h hl hw hpl)
  have hlen := (hist_len ax ax.length (Nat.le_refl _)).1
  rw [List.take_length] at hlen
  obtain ⟨⟨vs, fs⟩, hv⟩ : ∃ H, H = hist ax := ⟨_, rfl⟩
  rw [← hv] at HS hlen ⊢
  simp only at hlen
  have hn : vs.length ≤ 1599289640401 := by omega
  clear h hw hpl hlen hv
  go_enter Try.func20, Try.ntmps20
  go_wp2_with fail
  refine HS.out.mono ?_
  rintro e w1 ⟨o, t, vals, rfl, hH⟩
  simp only at hH
  obtain ⟨⟨oa, oc, rfl⟩, ta, tc, rfl⟩ := hH.form (fun s => rfl)
  have HH := hid0 hH
  clear hH HS
  go_wp2
  go_loopg [6, 16] (vs.length) (fun n o i wq => ∃ (j : Nat) (vals : List Sh), j + n = vs.length ∧ i = .int .i64 j ∧ HsS w1 wq o (.slice none 0 0) vals (vs.take j) [])
  case atStart => exact ⟨0, [], by simp, rfl, ⟨Own.nil _, rfl, (fun i s xs hs => by simp at hs), Own.nil _, Kept.refl _ _⟩⟩
  case round =>
    obtain ⟨j, vals5, hj, rfl, hS⟩ := hrel
    have hK := hS.kept
    have HQ := hid0 hS
    by_cases hlt : j < vs.length
    · obtain ⟨g, off, b, rfl, hg, hc1, hp1⟩ := (HH.out.ext hK).get (fun s => rfl) j hlt
      have v1 := hc1 _ rfl
      have hgv : vs.getD j [] = vs[j] := by rw [List.getD_eq_getElem?_getD, List.getElem?_eq_getElem hlt]; rfl
      rw [hgv] at hp1
      have HT := hid0 hp1
      have hi0 : (0 : Int) ≤ (j : Int) := Int.natCast_nonneg _
      have hi1 : (j : Int) < (vs.length : Int) := by omega
      clear hS hK hc1 hp1 hgv
      go_wp2_with fail
      refine (pairs_any _ b 0 vs[j] HT.out.at).mono ?_
      rintro e W6 ⟨v6, rfl, o6, g6⟩
      obtain ⟨⟨x6, y6, z6⟩, rfl, p6⟩ := OwnP.pv o6
      simp only [shv]
      have HX := hid0 (And.intro (HQ.out.ext g6) p6)
      clear o6 p6 g6
      go_wp2_with (at_builtin; refine wpList_app2 rfl (.tmp 20) (.tmp 23) rfl tyV shc_enc w1.heap.size _ _ rfl (HX.out.1.own.alloc _) W6.heap.size (x6, y6, z6) rfl (new_cells (cs := shc (x6, y6, z6)) (by simp)) (by have := HX.out.1.len; rw [List.length_take] at this; omega) (by decide) (by have := HX.out.1.kept.size; simp; omega) ?_)
      intro o7 w7 g1 g2
      have hkA : Kept Non W6 (W6.alloc (.cells #[.slice x6 y6 z6] 22)) := (Kept.refl _ _).alloc _
      have H7 := hid0 (Hs.app pkV (HX.out.1.ext hkA) (HX.out.2.ext hkA) free_V (by decide) g1 g2)
      clear g1 g2 hkA
      go_wp2
      go_roundg (gk - 1)
      case measure => omega
      case rel => exact ⟨j + 1, _, by omega, by go_num, by rw [List.take_succ_eq_append_getElem hlt]; exact H7.out⟩
    · have HE : Hid (vs.take j = vs) := List.take_of_length_le (by omega)
      clear hS hK
      go_wp2
      go_ret2
      exact ⟨_, _, vals5, rfl, by have := HQ.out; rw [HE.out] at this; exact this.mono HH.out.kept, OwnF.sl (HH.out.tol.ext' HQ.out.kept)⟩

set_option maxRecDepth 100000 in
theorem sameAll_any (w w0 w0' : World) (o o' t t' : Value) (vals vals' : List Sh) (vs : List Ps) (fs fs' : List Fd) (h : HsS w0 w o t vals vs fs) (h' : HsS w0' w o' t' vals' vs fs') (hl : vs.length ≤ 1599289640401) (hg : ∀ v ∈ vs, GoodV v) :
    Calls Try.prog 21 #[o, o'] w fun e w' => e = .returned (.bool true) ∧ Kept Non w w' := by
  obtain ⟨⟨oa, oc, rfl⟩, _⟩ := h.form (fun s => rfl)
  obtain ⟨⟨oa', oc', rfl⟩, _⟩ := h'.form (fun s => rfl)
  have HS := hid0 (And.intro h (And.intro h' hg))
  have hb1 : ((vs.length : Int) != (vs.length : Int)) = false := by simp
  clear h h' hg
  go_enter Try.func21, Try.ntmps21
  go_wp2
  go_loopg [14] (vs.length) (fun n i wr => ∃ k : Nat, k + n = vs.length ∧ i = .int .i64 k ∧ Kept Non w wr)
  case atStart => exact ⟨0, by simp, rfl, Kept.refl _ _⟩
  case round =>
    obtain ⟨k, hk, rfl, hK⟩ := hrel
    have HK := hid0 hK
    by_cases hlt : k < vs.length
    · obtain ⟨g, off, s1, rfl, hg, hc1, hp1⟩ := (HS.out.1.ext hK).get (fun s => rfl) k hlt
      obtain ⟨g', off', s2, rfl, hg', hc2, hp2⟩ := (HS.out.2.1.ext hK).get (fun s => rfl) k hlt
      obtain ⟨x1, y1, z1⟩ := s1
      obtain ⟨x2, y2, z2⟩ := s2
      have v1 := hc1 _ rfl
      have v2 := hc2 _ rfl
      simp only [shv] at v1 v2
      have HP := hid0 (And.intro hp1 hp2)
      have HGV := hid0 (GoodV.getD HS.out.2.2 k)
      have hi0 : (0 : Int) ≤ (k : Int) := Int.natCast_nonneg _
      have hi1 : (k : Int) < (vs.length : Int) := by omega
      clear hK hc1 hc2 hp1 hp2
      go_wp2_with fail
      refine (Same_any _ _ _ (vs.getD k []) (vs.getD k []) HP.out.1.sl HP.out.2.sl (by have := HGV.out.len; omega)).mono ?_
      rintro e W3 ⟨rfl, g3⟩
      rw [decide_eq_true (rfl : vs.getD k [] = vs.getD k [])]
      have H3 := hid0 (HK.out.trans g3)
      clear g3
      go_wp2
      go_roundg (gk - 1)
      case measure => omega
      case rel => exact ⟨k + 1, by omega, by go_num, H3.out⟩
    · clear hK
      go_wp2
      go_ret
      exact ⟨rfl, HK.out⟩

set_option maxRecDepth 100000 in
theorem told_any (w : World) (v : Value) (ax : List Ac) (h : SlA w v ax) (hl : ax.length ≤ 1599289640400) :
    Calls Try.prog 23 #[v] w fun e w' => ∃ b : Bool, e = .returned (.bool b) ∧ Kept Non w w' := by
  obtain ⟨a, cap, rfl⟩ := h.form
  have HS := hid0 h
  clear h
  go_enter Try.func23, Try.ntmps23
  go_wp2
  go_loopg [8] (ax.length) (fun n i wr => ∃ k : Nat, k + n = ax.length ∧ i = .int .i64 k ∧ Kept Non w wr)
  case atStart => exact ⟨0, by simp, rfl, Kept.refl _ _⟩
  case round =>
    obtain ⟨k, hk, rfl, hK⟩ := hrel
    have HK := hid0 hK
    by_cases hlt : k < ax.length
    · obtain ⟨b, offa, rfl, hb, ca⟩ := HS.out.act hK k hlt
      obtain ⟨c0, c1, c2, c3, c4, c5, c6, c7, c8, c9, c10⟩ := ca
      obtain ⟨a, ha⟩ : ∃ a, a = ax[k] := ⟨_, rfl⟩
      rw [← ha] at c0 c1 c2 c3 c4 c5 c6 c7 c8 c9 c10
      clear hK ha
      by_cases q1 : 0 < bits .and .i64 a.kind 7
      · by_cases q2 : bits .and .i64 a.kind 7 < 4
        · go_wp2
          go_ret
          exact ⟨false, rfl, HK.out.alloc _⟩
        · go_wp2
          go_roundg (gk - 1)
          case measure => omega
          case rel => exact ⟨k + 1, by omega, by go_num, HK.out.alloc _⟩
      · go_wp2
        go_roundg (gk - 1)
        case measure => omega
        case rel => exact ⟨k + 1, by omega, by go_num, HK.out.alloc _⟩
    · clear hK
      go_wp2
      go_ret
      exact ⟨true, rfl, HK.out⟩

end Go.Proofs.Ytehegllgaiehfaa
