/- impl.InPlace. -/
import Derived.Test.YtlmbgkgnbebkiaaPlay
namespace Go.Proofs.Ytlmbgkgnbebkiaa
open Go.RowKit

/-- a tree's header, kept as a value -/
abbrev Tv := Tr × Ps
def tvc (x : Tv) : List Value := [x.1.ptr, .int .i64 x.2.length]
theorem tvc_enc (x : Tv) : (tvc x).length = 2 ∧ ∀ u ∈ tvc x, u.oneCell' = true := ⟨rfl, fun u hu => by
  simp only [tvc, List.mem_cons, List.not_mem_nil, or_false] at hu
  rcases hu with rfl | rfl
  · obtain ⟨v, hv⟩ := ptr_form x.1
    rw [hv]; rfl
  · rfl⟩
theorem tyC : ElTy 95 94 2 16 := elTy_of (z := .agg #[.pointer none, .int .i64 0]) (by kernel_rfl) (by kernel_rfl) rfl (by decide)
abbrev OwnC := @Own Tv 2 tvc 94
/-- the set behind so many acts -/
def setAt (ax : List Ac) (k : Nat) : Ps := (ax.take k).foldl (fun s a => (upd s a).1) []
theorem setAt_succ (ax : List Ac) (k : Nat) (h : k < ax.length) : setAt ax (k + 1) = (upd (setAt ax k) ax[k]).1 := by
  rw [setAt, List.take_succ_eq_append_getElem h, List.foldl_append]; rfl
theorem setAt_take (ax : List Ac) (j k : Nat) (h : k ≤ j) : setAt (ax.take j) k = setAt ax k := by
  rw [setAt, setAt, List.take_take, Nat.min_eq_left h]
theorem setAt_good {ax : List Ac} (h : ActsW ax) : ∀ k, k ≤ ax.length → GoodV (setAt ax k)
  | 0, _ => by simpa [setAt] using GoodV.nil
  | k + 1, hk => by
    rw [setAt_succ ax k (by omega)]
    exact (setAt_good h k (by omega)).upd (h _ (List.getElem_mem _))
/-- the states of a tree, one behind the other -/
def inpl (ax : List Ac) (k : Nat) : List Ps := (List.range k).map (setAt ax)
theorem inpl_succ (ax : List Ac) (k : Nat) : inpl ax (k + 1) = inpl ax k ++ [setAt ax k] := by
  rw [inpl, List.range_succ, List.map_append]; rfl
theorem inpl_len (ax : List Ac) (k : Nat) : (inpl ax k).length = k := by simp [inpl]
theorem inpl_get (ax : List Ac) (k i : Nat) (h : i < k) : (inpl ax k)[i]? = some (setAt ax i) := by
  rw [inpl, List.getElem?_map, List.getElem?_range h]; rfl
theorem inpl_getD (ax : List Ac) (k i : Nat) (h : i < k) : (inpl ax k).getD i [] = setAt ax i := by
  rw [List.getD_eq_getElem?_getD, inpl_get ax k i h]; rfl

/-- the state of the first loop -/
structure Ip (w W : World) (o : Value) (xs : Ps) (vals : List Tv) (vs : List Ps) : Prop where
  head : Head W w.heap.size xs
  own : OwnC (w.heap.size + 1) W o vals
  sets : vals.map Prod.snd = vs
  each : ∀ x ∈ vals, GoodT W x.1 x.2
  kept : Kept Non w W
theorem Ip.ext {w W W' : World} {o : Value} {xs : Ps} {vals : List Tv} {vs : List Ps} (h : Ip w W o xs vals vs) (hk : Kept Non W W') : Ip w W' o xs vals vs :=
  ⟨h.head.ext hk, h.own.ext' hk, h.sets, fun x hx => (h.each x hx).ext hk, h.kept.trans hk⟩
theorem Ip.app {w W W' : World} {o o' : Value} {xs : Ps} {vals : List Tv} {vs : List Ps} {T : Tr} (h : Ip w W o xs vals vs) (hT : GoodT W T xs) (g1 : OwnC (w.heap.size + 1) W' o' (vals ++ [(T, xs)])) (g2 : Kept (OwnS o) W W') : Ip w W' o' xs (vals ++ [(T, xs)]) (vs ++ [xs]) := by
  have hn := h.own.not_blk (by decide)
  refine ⟨h.head.kept g2 (h.own.old (by omega)) hn, g1, by rw [List.map_append, h.sets]; rfl, fun x hx => ?_, h.kept.trans' g2 (fun i hi e => by have := h.own.block i e; omega)⟩
  rcases List.mem_append.1 hx with hx | hx
  · exact (h.each x hx).kept g2 (hn _ (h.each x hx).inn)
  · simp at hx; subst hx
    exact hT.kept g2 (hn _ hT.inn)
theorem Ip.turn {w W W' : World} {o : Value} {xs ys : Ps} {vals : List Tv} {vs : List Ps} (h : Ip w W o xs vals vs) (h1 : Head W' w.heap.size ys) (h2 : Kept (One w.heap.size) W W') : Ip w W' o ys vals vs :=
  ⟨h1, h.own.ext h2 (fun b hb e => by have e' : b = w.heap.size := e; omega), h.sets, fun x hx => (h.each x hx).kept h2 (h.head.nodes _ (h.each x hx).inn), h.kept.trans' h2 (fun i hi e => by have e' : i = w.heap.size := e; omega)⟩

/-- slices of pairs are returned in a slice -/
def NewV (w : World) (vs : List Ps) (e : Ending) (w' : World) : Prop := ∃ o vals, e = .returned o ∧ HsS w w' o (.slice none 0 0) vals vs []

theorem Hs.mono {α : Type} {enc : α → List Value} {E : Nat} {P : World → α → Ps → Prop} {w w5 W : World} {o t : Value} {vals : List α} {vs : List Ps} {fs : List Fd} (h : Hs enc E P w5 W o t vals vs fs) (hk : Kept Non w w5) : Hs enc E P w W o t vals vs fs :=
  ⟨h.own.mono hk.size, h.len, h.each, h.tol.mono hk.size, hk.trans h.kept⟩

set_option maxRecDepth 100000 in
set_option maxHeartbeats 2000000 in
theorem InPlace_any (w : World) (v : Value) (ax : List Ac) (h : SlA w v ax) (hl : ax.length ≤ 1599289640400) (hk : ∀ a ∈ ax, -2147483648 < a.key ∧ a.key ≤ 2147483647) : Calls Try.prog 41 #[v] w (NewV w (inpl ax (ax.length + 1))) := by
  obtain ⟨a, cap, rfl⟩ := h.form
  have HS := hid0 (And.intro h hk)
  clear h hk
  go_enter Try.func41, Try.ntmps41
  go_wp2
  go_loopg [4, 11] (ax.length) (fun n o i wr => ∃ (k : Nat) (vals : List Tv), k + n = ax.length ∧ i = .int .i64 k ∧ Ip w wr o (setAt ax k) vals (inpl ax k))
  case atStart => exact ⟨0, [], by simp, rfl, Head.empty (alloc_new _ _), Own.nil _, rfl, (fun x hx => by cases hx), (Kept.refl _ _).alloc _⟩
  case round =>
    obtain ⟨k, vals, hk, rfl, hI⟩ := hrel
    have HI := hid0 hI
    have hsz : w.heap.size < wr.heap.size := hI.head.lt
    have hlen : vals.length = k := by
      have := congrArg List.length hI.sets
      rw [List.length_map, inpl_len] at this
      exact this
    obtain ⟨xs, hxs⟩ : ∃ xs, xs = setAt ax k := ⟨_, rfl⟩
    have HXS := hid0 hxs
    rw [← hxs] at HI hI
    obtain ⟨T, t1, t2⟩ := hI.head.ex
    obtain ⟨u, fu⟩ := ptr_form T
    have t1' : ∀ o1, (wr.alloc o1).heap[w.heap.size]? = some (.cells #[.pointer u, .int .i64 xs.length] 94 (0, 0)) := fun o1 => (((Kept.refl Non wr).alloc o1).block _ hsz (fun h => h)).trans (by rw [t1, tObj, fu])
    have HT := hid0 (And.intro t2 fu)
    by_cases hlt : k < ax.length
    · have z0 : ∀ o1, (wr.alloc o1).cell? ⟨w.heap.size, 0, none⟩ = some (.pointer u) := fun o1 => by rw [cell_of (t1' o1)]; rfl
      have z1 : ∀ o1, (wr.alloc o1).cell? ⟨w.heap.size, 1, none⟩ = some (.int .i64 xs.length) := fun o1 => by rw [cell_of (t1' o1)]; rfl
      obtain ⟨b, offa, rfl, hb, ca⟩ := HS.out.1.act hI.kept k hlt
      obtain ⟨c0, c1, c2, c3, c4, c5, c6, c7, c8, c9, c10⟩ := ca
      have HKY := hid0 (HS.out.2 _ (List.getElem_mem hlt))
      obtain ⟨a, ha⟩ : ∃ a, a = ax[k] := ⟨_, rfl⟩
      rw [← ha] at c0 c1 c2 c3 c4 c5 c6 c7 c8 c9 c10 HKY
      have HA := hid0 ha
      clear hI hxs t1 t1' t2 fu ha
      go_wp2_with (at_builtin; refine wpList_app2 rfl (.tmp 15) (.tmp 17) rfl tyC tvc_enc (w.heap.size + 1) _ _ rfl ((HI.out.own.alloc _).alloc _) (wr.heap.size + 1) (T, xs) rfl (by rw [show tvc (T, xs) = [.pointer u, .int .i64 xs.length] from by simp only [tvc]; rw [HT.out.2]]; exact new_cells (cs := [.pointer u, .int .i64 xs.length]) (by simp)) (by omega) (by decide) (by simp; omega) ?_)
      intro o5 w5 g1 g2
      have hkk : Kept Non wr ((wr.alloc (.cells (ac a).toArray 60)).alloc (.cells #[.pointer u, .int .i64 xs.length] 94)) := ((Kept.refl _ _).alloc _).alloc _
      have h5 := (HI.out.ext hkk).app (HT.out.1.ext hkk) g1 g2
      have hab : AcB ((wr.alloc (.cells (ac a).toArray 60)).alloc (.cells #[.pointer u, .int .i64 xs.length] 94)) wr.heap.size a := AcB.ext ⟨alloc_new _ _⟩ ((Kept.refl _ _).alloc _)
      have h5a : AcB w5 wr.heap.size a := ⟨(g2.block _ (block_lt hab.blk) (fun e => by have := HI.out.own.ltS e; omega)).trans hab.blk⟩
      obtain ⟨d0, d1, d2, d3, d4, d5, d6, d7, d8, d9, d10⟩ := h5a.at
      simp only [Nat.zero_add] at d0 d1 d2 d3 d4 d5 d6 d7 d8 d9 d10
      have H5 := hid0 h5
      clear h5 hab h5a g1 g2 hkk z0 z1 c0 c1 c2 c3 c4 c5 c6 c7 c8 c9 c10
      go_wp2_with fail
      refine (update_any _ w.heap.size xs a H5.out.head HKY.out).mono ?_
      rintro e w6 ⟨rfl, h6, g6⟩
      have H6 := hid0 (H5.out.turn h6 g6)
      generalize (upd xs a).2 = fr
      obtain ⟨fr0, fr1, fr2⟩ := fr
      simp only [fv]
      clear h6 g6 d0 d1 d2 d3 d4 d5 d6 d7 d8 d9 d10
      go_wp2
      go_roundg (gk - 1)
      case measure => omega
      case rel => exact ⟨k + 1, _, by omega, by go_num, by rw [setAt_succ ax k hlt, inpl_succ, ← HXS.out, ← HA.out]; exact H6.out⟩
    · have hkl : k = ax.length := by omega
      have z0 : wr.cell? ⟨w.heap.size, 0, none⟩ = some (.pointer u) := by unfold tObj at t1; rw [cell_of t1, ← fu]; rfl
      have z1 : wr.cell? ⟨w.heap.size, 1, none⟩ = some (.int .i64 xs.length) := by unfold tObj at t1; rw [cell_of t1]; rfl
      have HKL := hid0 hkl
      have hvb : vals.length ≤ 1599289640400 := by omega
      clear hI t1 t1' t2 fu hxs hkl hlen
      go_wp2_with (at_builtin; refine wpList_app2 rfl (.tmp 22) (.tmp 24) rfl tyC tvc_enc (w.heap.size + 1) _ _ rfl (HI.out.own.alloc _) wr.heap.size (T, xs) rfl (by rw [show tvc (T, xs) = [.pointer u, .int .i64 xs.length] from by simp only [tvc]; rw [HT.out.2]]; exact new_cells (cs := [.pointer u, .int .i64 xs.length]) (by simp)) (by omega) (by decide) (by simp; omega) ?_)
      intro o5 w5 g1 g2
      have hkk : Kept Non wr (wr.alloc (.cells #[.pointer u, .int .i64 xs.length] 94)) := (Kept.refl _ _).alloc _
      have h5 := (HI.out.ext hkk).app (HT.out.1.ext hkk) g1 g2
      rw [HXS.out, ← inpl_succ, HKL.out] at h5
      obtain ⟨vs, hvs⟩ : ∃ vs, vs = inpl ax (ax.length + 1) := ⟨_, rfl⟩
      have hvl : vs.length = ax.length + 1 := by rw [hvs, inpl_len]
      rw [← hvs] at h5
      have HVS := hid0 hvs
      obtain ⟨oa, oc, rfl⟩ : ∃ a c, o5 = .slice a vs.length c := by
        obtain ⟨a, c, e⟩ := (Own.sl (fun x => (tvc_enc x).1) h5.own).form
        exact ⟨a, c, by rw [e, ← h5.sets, List.length_map]⟩
      generalize vals ++ [(T, setAt ax ax.length)] = vals5 at h5
      have H5 := hid0 h5
      have hvm : vs.length ≤ 1599289640401 := by omega
      clear h5 g1 g2 hkk z0 z1 hvs hvl
      go_wp2
      go_loopg [7, 28] (vs.length) (fun n o i wq => ∃ (j : Nat) (vals : List Sh), j + n = vs.length ∧ i = .int .i64 j ∧ HsS w5 wq o (.slice none 0 0) vals (vs.take j) [])
      case atStart => exact ⟨0, [], by simp, rfl, ⟨Own.nil _, rfl, (fun i s xs hs => by simp at hs), Own.nil _, Kept.refl _ _⟩⟩
      case round =>
        obtain ⟨j, vals, hj, rfl, hH⟩ := hrel
        have hK := hH.kept
        have HH := hid0 hH
        by_cases hlt : j < vs.length
        · have hlv : j < vals5.length := by
            have := congrArg List.length H5.out.sets
            rw [List.length_map] at this
            omega
          have hset : vals5[j].2 = vs[j] := by
            have : (vals5.map Prod.snd)[j]? = vs[j]? := by rw [H5.out.sets]
            rw [List.getElem?_map, List.getElem?_eq_getElem hlv, List.getElem?_eq_getElem hlt] at this
            simpa using this
          obtain ⟨b, off, rfl, hb, hc⟩ := (Own.sl (fun x => (tvc_enc x).1) H5.out.own).cells hK j hlv
          have hT : TreeAt wr b (off + j * 2) vs[j] := ⟨vals5[j].1, by simpa using hc 0 _ rfl, by rw [← hset]; exact hc 1 _ rfl, by rw [← hset]; exact (H5.out.each _ (List.getElem_mem hlv)).ext hK⟩
          have HT := hid0 hT
          have hi0 : (0 : Int) ≤ (j : Int) := Int.natCast_nonneg _
          have hi1 : (j : Int) < (vs.length : Int) := by omega
          clear hH hK hc hT hset
          go_wp2_with fail
          refine (pairs_any _ b (off + j * 2) vs[j] HT.out).mono ?_
          rintro e W6 ⟨v6, rfl, o6, g6⟩
          obtain ⟨⟨x6, y6, z6⟩, rfl, p6⟩ := OwnP.pv o6
          simp only [shv]
          have HX := hid0 (And.intro (HH.out.ext g6) p6)
          clear o6 p6 g6
          go_wp2_with (at_builtin; refine wpList_app2 rfl (.tmp 31) (.tmp 36) rfl tyV shc_enc w5.heap.size _ _ rfl (HX.out.1.own.alloc _) W6.heap.size (x6, y6, z6) rfl (new_cells (cs := shc (x6, y6, z6)) (by simp)) (by have := HX.out.1.len; rw [List.length_take] at this; omega) (by decide) (by have := HX.out.1.kept.size; simp; omega) ?_)
          intro o7 w7 g1 g2
          have hkA : Kept Non W6 (W6.alloc (.cells #[.slice x6 y6 z6] 22)) := (Kept.refl _ _).alloc _
          have h7 := Hs.app pkV (HX.out.1.ext hkA) (HX.out.2.ext hkA) free_V (by decide) g1 g2
          have H7 := hid0 h7
          clear h7 g1 g2 hkA
          go_wp2
          go_roundg (gk - 1)
          case measure => omega
          case rel => exact ⟨j + 1, _, by omega, by go_num, by rw [List.take_succ_eq_append_getElem hlt]; exact H7.out⟩
        · have HE : Hid (vs.take j = vs) := List.take_of_length_le (by omega)
          clear hH hK
          go_wp2
          go_ret
          exact ⟨_, vals, rfl, by have := HH.out; rw [HE.out] at this; rw [← HVS.out]; exact this.mono H5.out.kept⟩

end Go.Proofs.Ytlmbgkgnbebkiaa
