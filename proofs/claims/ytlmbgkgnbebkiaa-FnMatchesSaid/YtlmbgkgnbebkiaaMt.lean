/- impl.Matches. -/
import Derived.Test.YtlmbgkgnbebkiaaIHist
import Derived.Test.YtlmbgkgnbebkiaaEq3
namespace Go.Proofs.Ytlmbgkgnbebkiaa
open Go.RowKit

def bc (b : Bool) : List Value := [.bool b]
theorem bc_enc (b : Bool) : (bc b).length = 1 ∧ ∀ u ∈ bc b, u.oneCell' = true := ⟨rfl, fun u hu => by simp [bc] at hu; subst hu; rfl⟩
abbrev SlB := @Sl Bool 1 bc
abbrev OwnB := @Own Bool 1 bc 4
theorem tyB : ElTy 34 4 1 1 := elTy_of (z := .bool false) (by kernel_rfl) (by kernel_rfl) rfl (by decide)
theorem tyBB : ElTy 68 34 1 24 := elTy_of (z := .slice none 0 0) (by kernel_rfl) (by kernel_rfl) rfl (by decide)
theorem OwnB.sl {base : Nat} {w : World} {v : Value} {bs : List Bool} (h : OwnB base w v bs) : SlB w v bs := Own.sl (fun b => (bc_enc b).1) h
theorem Sl.bool {w w' : World} {a : Option Addr} {n cap : Nat} {bs : List Bool} (h : SlB w (.slice a n cap) bs) (hk : Kept Non w w') (k : Nat) (hlt : k < bs.length) :
    ∃ b off, a = some ⟨b, off, none⟩ ∧ b < w.heap.size ∧ w'.cell? ⟨b, off + k, none⟩ = some (.bool bs[k]) := by
  obtain ⟨b, off, ha, hb, hc⟩ := h.cells hk k hlt
  exact ⟨b, off, ha, hb, by simpa using hc 0 _ rfl⟩

/-- a row of answers, its elements in a block of bools -/
structure PB (w : World) (s : Sh) (bs : List Bool) : Prop where
  sl : SlB w (shv s) bs
  blk : ∀ b, OwnS (shv s) b → ∃ cur z, w.heap[b]? = some (.cells cur 4 z)
theorem PB.ext {w w' : World} {s : Sh} {bs : List Bool} (h : PB w s bs) (hk : Kept Non w w') : PB w' s bs := ⟨h.sl.ext hk, fun b hb => by
  obtain ⟨cur, z, h1⟩ := h.blk b hb
  exact ⟨cur, z, (hk.block b (block_lt h1) (fun h => h)).trans h1⟩⟩
theorem OwnB.pb {base : Nat} {w : World} {v : Value} {bs : List Bool} (h : OwnB base w v bs) : ∃ s, v = shv s ∧ PB w s bs := by
  obtain ⟨a, c, e⟩ := (OwnB.sl h).form
  refine ⟨(a, bs.length, c), e, ⟨by have := OwnB.sl h; rw [e] at this; exact this, fun b hb => ?_⟩⟩
  have hb' : OwnS v b := by rw [e]; exact hb
  obtain ⟨cur, hc⟩ := h.typ hb'
  exact ⟨cur, _, hc⟩
/-- rows of answers -/
structure Mt (w W : World) (o : Value) (vals : List Sh) (rows : List (List Bool)) : Prop where
  own : Own 1 shc 34 w.heap.size W o vals
  len : vals.length = rows.length
  each : ∀ (i : Nat) (s : Sh) (bs : List Bool), vals[i]? = some s → rows[i]? = some bs → PB W s bs
  kept : Kept Non w W
theorem Mt.ext {w W W' : World} {o : Value} {vals : List Sh} {rows : List (List Bool)} (h : Mt w W o vals rows) (hk : Kept Non W W') : Mt w W' o vals rows := ⟨h.own.ext' hk, h.len, fun i s bs a b => (h.each i s bs a b).ext hk, h.kept.trans hk⟩
theorem Mt.app {w W W' : World} {o o' : Value} {vals : List Sh} {rows : List (List Bool)} {s : Sh} {bs : List Bool} (h : Mt w W o vals rows) (hs : PB W s bs) (g1 : Own 1 shc 34 w.heap.size W' o' (vals ++ [s])) (g2 : Kept (OwnS o) W W') : Mt w W' o' (vals ++ [s]) (rows ++ [bs]) := by
  have keep : ∀ {s : Sh} {bs : List Bool}, PB W s bs → PB W' s bs := fun {s bs} hp => by
    have hn : ∀ b, OwnS (shv s) b → ¬ OwnS o b := fun b hb ho => by
      obtain ⟨cur, z, h1⟩ := hp.blk b hb
      obtain ⟨cur2, h2⟩ := h.own.typ ho
      rw [h1] at h2
      simp at h2
    exact ⟨hp.sl.kept g2 hn, fun b hb => by
      obtain ⟨cur, z, h1⟩ := hp.blk b hb
      exact ⟨cur, z, (g2.block b (block_lt h1) (hn b hb)).trans h1⟩⟩
  refine ⟨g1, by simp [h.len], fun i s' bs' a b => ?_, h.kept.trans' g2 (fun i hi e => by have := h.own.block i e; omega)⟩
  by_cases hi : i < vals.length
  · rw [List.getElem?_append_left hi] at a
    rw [List.getElem?_append_left (by rw [← h.len]; exact hi)] at b
    exact keep (h.each i _ _ a b)
  · have hi2 : i = vals.length := by
      have := (List.getElem?_eq_some_iff.1 a).1
      simp at this
      omega
    subst hi2
    rw [List.getElem?_append_right (Nat.le_refl _)] at a
    rw [h.len, List.getElem?_append_right (Nat.le_refl _)] at b
    simp at a b
    subst a b
    exact keep hs
theorem Mt.form {w W : World} {o : Value} {vals : List Sh} {rows : List (List Bool)} (h : Mt w W o vals rows) : ∃ a c, o = .slice a rows.length c := by
  obtain ⟨a, c, e⟩ := (Own.sl (fun s => (shc_enc s).1) h.own).form
  exact ⟨a, c, by rw [e, h.len]⟩
theorem Mt.get {w W : World} {a : Option Addr} {n c : Nat} {vals : List Sh} {rows : List (List Bool)} (h : Mt w W (.slice a n c) vals rows) (i : Nat) (hi : i < rows.length) :
    ∃ g off s, a = some ⟨g, off, none⟩ ∧ g < W.heap.size ∧ W.cell? ⟨g, off + i, none⟩ = some (shv s) ∧ PB W s rows[i] := by
  have hi' : i < vals.length := by rw [h.len]; exact hi
  obtain ⟨g, off, ha, hg, hc⟩ := (Own.sl (fun s => (shc_enc s).1) h.own).cells (Kept.refl Non W) i hi'
  exact ⟨g, off, vals[i], ha, hg, by simpa using hc 0 _ rfl, h.each i _ _ (List.getElem?_eq_getElem hi') (List.getElem?_eq_getElem hi)⟩
/-- which versions are equal -/
def eqRow (vs : List Ps) (xs : Ps) : List Bool := vs.map fun y => decide (xs = y)
def eqRows (vs : List Ps) : List (List Bool) := vs.map (eqRow vs)

set_option maxRecDepth 100000 in
set_option maxHeartbeats 1000000 in
theorem Matches_any (w : World) (v : Value) (ax : List Ac) (h : SlA w v ax) (hl : ax.length ≤ 1599289640400) (hw : ActsW ax) (hpl : Played ax) :
    Calls Try.prog 45 #[v] w (fun e w' => ∃ o vals, e = .returned o ∧ Mt w w' o vals (eqRows (hist ax).1)) := by
  have HS := hid0 (history_any w v ax h hl hw hpl)
  have hlen := (hist_len ax ax.length (Nat.le_refl _)).1
  rw [List.take_length] at hlen
  obtain ⟨⟨vs, fs⟩, hv⟩ : ∃ H, H = hist ax := ⟨_, rfl⟩
  rw [← hv] at HS hlen ⊢
  simp only at hlen
  have hn : vs.length ≤ 1599289640401 := by omega
  clear h hw hpl hlen hv
  go_enter Try.func45, Try.ntmps45
  go_wp2_with fail
  refine HS.out.mono ?_
  rintro e w1 ⟨o, t, vals, rfl, hH⟩
  simp only at hH
  obtain ⟨⟨oa, oc, rfl⟩, ta, tc, rfl⟩ := hH.form (fun s => rfl)
  have HH := hid0 hH
  clear hH HS
  go_wp2
  go_loopg [5, 18] (vs.length) (fun n o i wq => ∃ (j : Nat) (vals : List Sh), j + n = vs.length ∧ i = .int .i64 j ∧ Mt w1 wq o vals ((vs.take j).map (eqRow vs)))
  case atStart => exact ⟨0, [], by simp, rfl, ⟨Own.nil _, rfl, (fun i s xs hs => by simp at hs), Kept.refl _ _⟩⟩
  case round =>
    obtain ⟨j, vals5, hj, rfl, hS⟩ := hrel
    rename World => wo
    have hK := hS.kept
    have HQ := hid0 hS
    by_cases hlt : j < vs.length
    · obtain ⟨g, off, b, rfl, hg, hc1, hp1⟩ := (HH.out.ext hK).get (fun s => rfl) j hlt
      have v1 := hc1 _ rfl
      have hgv : vs.getD j [] = vs[j] := by rw [List.getD_eq_getElem?_getD, List.getElem?_eq_getElem hlt]; rfl
      rw [hgv] at hp1
      have HT := hid0 hp1
      have HK := hid0 hK
      have hi0 : (0 : Int) ≤ (j : Int) := Int.natCast_nonneg _
      have hi1 : (j : Int) < (vs.length : Int) := by omega
      clear hS hK hc1 hp1 hgv
      go_wp2
      go_loopg [8, 24] (vs.length) (fun n o i wz => ∃ k : Nat, k + n = vs.length ∧ i = .int .i64 k ∧ Kept Non wo wz ∧ OwnB wo.heap.size wz o ((vs.take k).map fun y => decide (vs[j] = y)))
      case atStart => exact ⟨0, by simp, rfl, Kept.refl _ _, Own.nil _⟩
      case round =>
        obtain ⟨k, hk, rfl, hK2, hO2⟩ := hrel
        have HK2 := hid0 (And.intro hK2 hO2)
        have hsz2 := hK2.size
        by_cases hlt2 : k < vs.length
        · obtain ⟨g', off', c, he, hg', hc2, hp2⟩ := ((HH.out.ext HK.out).ext hK2).get (fun s => rfl) k hlt2
          cases he
          have v2 := hc2 _ rfl
          have hgv : vs.getD k [] = vs[k] := by rw [List.getD_eq_getElem?_getD, List.getElem?_eq_getElem hlt2]; rfl
          rw [hgv] at hp2
          have HT2 := hid0 hp2
          have hi2 : (0 : Int) ≤ (k : Int) := Int.natCast_nonneg _
          have hi3 : (k : Int) < (vs.length : Int) := by omega
          have HLn : Hid (((vs.take k).map fun y => decide (vs[j] = y)).length + 1 ≤ 1599289640402) := by
            show _ ≤ _
            rw [List.length_map, List.length_take]
            omega
          clear hK2 hO2 hc2 hp2 hgv v1
          go_wp2_with fail
          refine (TEquals_any _ b c vs[j] vs[k] (HT.out.ext HK2.out.1) HT2.out).mono ?_
          rintro e W4 ⟨rfl, g4⟩
          have H4 := hid0 (And.intro (HK2.out.1.trans g4) (HK2.out.2.ext' g4))
          have hs4 := g4.size
          obtain ⟨r, hr⟩ : ∃ r, r = decide (vs[j] = vs[k]) := ⟨_, rfl⟩
          rw [← hr]
          have HR := hid0 hr
          clear g4 hr
          go_wp2_with (at_builtin; refine wpList_app2 rfl (.tmp 28) (.tmp 32) rfl tyB bc_enc wo.heap.size _ _ rfl (H4.out.2.alloc _) W4.heap.size r rfl (new_cells (cs := bc r) (by simp)) (by have := HLn.out; omega) (by decide) (by simp; omega) ?_)
          intro o5 w5 g1 g2
          have H5 := hid0 (And.intro g1 ((H4.out.1.alloc _).trans' g2 (fun i hi e => by have := H4.out.2.block i e; omega)))
          clear g1 g2
          go_wp2
          go_roundg (gk - 1)
          case measure => omega
          case rel => exact ⟨k + 1, by omega, by go_num, H5.out.2, by rw [List.take_succ_eq_append_getElem hlt2, List.map_append, List.map_cons, List.map_nil, ← HR.out, List.map_take]; exact H5.out.1⟩
        · have HE : Hid (vs.take k = vs) := List.take_of_length_le (by omega)
          obtain ⟨⟨x6, y6, z6⟩, rfl, p6⟩ := OwnB.pb hO2
          rw [HE.out] at p6
          simp only [shv]
          have HX := hid0 (And.intro (HQ.out.ext hK2) p6)
          have HLn : Hid (((vs.take j).map (eqRow vs)).length + 1 ≤ 1599289640402) := by
            show _ ≤ _
            rw [List.length_map, List.length_take]
            omega
          clear hK2 hO2 p6 v1
          go_wp2_with (at_builtin; refine wpList_app2 rfl (.tmp 35) (.tmp 37) rfl tyBB shc_enc w1.heap.size _ _ rfl (HX.out.1.own.alloc _) wr.heap.size (x6, y6, z6) rfl (new_cells (cs := shc (x6, y6, z6)) (by simp)) (by have := HX.out.1.len; have h2 := HLn.out; omega) (by decide) (by have := HX.out.1.kept.size; simp; omega) ?_)
          intro o7 w7 g1 g2
          have H7 := hid0 ((HX.out.1.ext ((Kept.refl _ _).alloc _)).app (HX.out.2.ext ((Kept.refl _ _).alloc _)) g1 g2)
          clear g1 g2
          go_wp2
          go_roundg (vs.length - (j + 1))
          case measure => omega
          case rel => exact ⟨j + 1, _, by omega, by go_num, by rw [List.take_succ_eq_append_getElem hlt, List.map_append]; exact H7.out⟩
    · have HE : Hid (vs.take j = vs) := List.take_of_length_le (by omega)
      clear hS hK
      go_wp2
      go_ret
      refine ⟨_, vals5, rfl, ?_⟩
      have := HQ.out
      rw [HE.out] at this
      exact ⟨this.own.mono HH.out.kept.size, this.len, this.each, HH.out.kept.trans this.kept⟩

end Go.Proofs.Ytlmbgkgnbebkiaa
