/- impl.IterateOn. -/
import Derived.Test.YtlmbgkgnbebkiaaPlay
import Derived.Test.YtlmbgkgnbebkiaaItI
namespace Go.Proofs.Ytlmbgkgnbebkiaa
open Go.RowKit

def acZ : Ac := ⟨0, 0, 0, 0, 0, ⟨false, 0, 0, 0, 0, 0⟩⟩
/-- a set behind so many acts, which are taken in turn -/
def itOn (ax : List Ac) (s : Ps) : Nat → Ps
  | 0 => s
  | k + 1 => if ax.length = 0 then itOn ax s k else (upd (itOn ax s k) (ax.getD (k % ax.length) acZ)).1
theorem itOn_good {ax : List Ac} (h : ActsW ax) {s : Ps} (hs : GoodV s) : ∀ k, GoodV (itOn ax s k)
  | 0 => hs
  | k + 1 => by
    rw [itOn]
    split
    · exact itOn_good h hs k
    · rename_i h0
      have hlt : k % ax.length < ax.length := Nat.mod_lt _ (by omega)
      refine (itOn_good h hs k).upd (h _ ?_)
      rw [List.getD_eq_getElem?_getD, List.getElem?_eq_getElem hlt]
      exact List.getElem_mem hlt
theorem getD_mod {ax : List Ac} (k : Nat) (h : k < ax.length) : ax.getD k acZ = ax[k] := by
  rw [List.getD_eq_getElem?_getD, List.getElem?_eq_getElem h]; rfl

/-- the state of the loop -/
structure Io (w : World) (b ib g : Nat) (wr : World) (o : Value) (zs qs rs : Ps) : Prop where
  head : Head wr b zs
  itr : Itr wr ib g rs
  own : OwnF (ib + 1) wr o (qs.map tf)
  kept : Kept Non w wr
  b0 : w.heap.size ≤ b
  bg : b < g
  gi : g < ib
theorem Io.ext {w wr w' : World} {b ib g : Nat} {o : Value} {zs qs rs : Ps} (h : Io w b ib g wr o zs qs rs) (hk : Kept Non wr w') : Io w b ib g w' o zs qs rs := ⟨h.head.ext hk, h.itr.ext hk, h.own.ext' hk, h.kept.trans hk, h.b0, h.bg, h.gi⟩
theorem Io.turn {w wr w' : World} {b ib g : Nat} {o : Value} {zs ys qs rs : Ps} (h : Io w b ib g wr o zs qs rs) (h1 : Head w' b ys) (h2 : Kept (One b) wr w') : Io w b ib g w' o ys qs rs := by
  have e0 := h.b0
  have e1 := h.bg
  have e2 := h.gi
  exact ⟨h1, h.itr.kept h2 (fun e => by have e' : ib = b := e; omega) (fun e => by have e' : g = b := e; omega) h.head.nodes, h.own.ext h2 (fun c hc e => by have e' : c = b := e; omega), h.kept.trans' h2 (fun i hi e => by have e' : i = b := e; omega), h.b0, h.bg, h.gi⟩
theorem Io.next {w wr : World} {b ib g : Nat} {o : Value} {zs qs rs : Ps} {q : Int × Int} (h : Io w b ib g wr o zs qs (q :: rs)) : Calls Try.prog 52 #[.pointer (some ⟨ib, 0, none⟩)] wr fun e w' => e = .returned (.tuple #[.int .i32 q.1, .iface 3 (.int .i64 q.2)]) ∧ Io w b ib g w' o zs qs rs := by
  have e0 := h.b0
  have e1 := h.bg
  have e2 := h.gi
  exact h.itr.next.mono fun e w' ⟨he, n1, n2, n3⟩ => ⟨he, h.head.kept n2 (fun e => by rcases e with e | e <;> omega) n3, n1, h.own.ext n2 (fun c hc e => by rcases e with e | e <;> omega), h.kept.trans' n2 (fun i hi e => by rcases e with e | e <;> omega), h.b0, h.bg, h.gi⟩
theorem Io.app {w wr w' : World} {b ib g : Nat} {o o' : Value} {zs qs rs : Ps} {q : Int × Int} (h : Io w b ib g wr o zs qs rs) (g1 : OwnF (ib + 1) w' o' (qs.map tf ++ [tf q])) (g2 : Kept (OwnS o) wr w') : Io w b ib g w' o' zs (qs ++ [q]) rs := by
  have e0 := h.b0
  have e1 := h.bg
  have e2 := h.gi
  exact ⟨h.head.kept g2 (h.own.old (by omega)) (h.own.not_blk (by decide)), h.itr.kept g2 (h.own.old (by omega)) (h.own.old (by omega)) (h.own.not_blk (by decide)), by rw [List.map_append]; exact g1, h.kept.trans' g2 (fun i hi e => by have := h.own.block i e; omega), h.b0, h.bg, h.gi⟩

set_option maxRecDepth 100000 in
set_option maxHeartbeats 1000000 in
theorem IterateOn_any (w : World) (v vx : Value) (ps : Ps) (ax : List Ac) (h : SlP w v ps) (hl : ps.length ≤ 8796093022208) (hok : KeysOk ps) (hx : SlA w vx ax) (hlx : ax.length ≤ 1599289640400) (hkx : ∀ a ∈ ax, -2147483648 < a.key ∧ a.key ≤ 2147483647) :
    Calls Try.prog 43 #[v, vx] w (fun e w' => ∃ o p, e = .returned (.tuple #[o, p]) ∧ SlF w' o ((treeP ps).map tf) ∧ SlP w' p (itOn ax (treeP ps) (treeP ps).length) ∧ Kept Non w w') := by
  obtain ⟨xa, xc, rfl⟩ := hx.form
  have HT := hid0 (tree_any w v ps h hl hok)
  have HX := hid0 (And.intro hx hkx)
  have hlen : (treeP ps).length ≤ 4294967296 := by
    have := Ok.length (treeP_ok hok ps.length)
    rw [List.take_length] at this
    omega
  obtain ⟨xs, hxs⟩ : ∃ xs, xs = treeP ps := ⟨_, rfl⟩
  rw [← hxs] at HT hlen ⊢
  clear h hok hxs hx hkx
  go_enter Try.func43, Try.ntmps43
  go_wp2_with fail
  refine HT.out.mono ?_
  rintro e w1 ⟨b, rfl, hb, g1, g2⟩
  have HG := hid0 (And.intro g1 g2)
  have hb1 := g1.lt
  clear g1 g2
  go_wp2_with fail
  refine (TIterator_any _ b 0 xs HG.out.1.at).mono ?_
  rintro e w2 ⟨v2, g, st, rfl, i1, i2, i3, i4, i5, i6⟩
  obtain ⟨a2, n2, k2, rfl⟩ := i3.form
  have hk2 : Kept Non w2 (w2.alloc (.cells #[.slice a2 n2 k2] 78)) := (Kept.refl _ _).alloc _
  have hio : Io w b w2.heap.size g (w2.alloc (.cells #[.slice a2 n2 k2] 78)) (.slice none 0 0) xs [] xs := ⟨HG.out.1.ext (i6.trans hk2), ⟨st, RowV.it (i3.ext hk2 (fun h => h) (fun _ _ _ _ h => h)) (alloc_new _ _) (by omega), i4, i5⟩, Own.nil _, (HG.out.2.trans i6).trans hk2, hb, by omega, i2⟩
  have HI := hid0 hio
  clear i1 i2 i3 i4 i5 i6 hk2 hio
  go_wp2
  go_loopg [8] (xs.length) (fun n o wr => ∃ (qs rs : Ps), n = rs.length ∧ xs = qs ++ rs ∧ Io w b w2.heap.size g wr o (itOn ax xs qs.length) qs rs)
  case atStart => exact ⟨[], xs, rfl, rfl, HI.out⟩
  case round =>
    obtain ⟨qs, rs, rfl, hxx, hI⟩ := hrel
    obtain ⟨oa, oc, rfl⟩ : ∃ a c, u8 = .slice a qs.length c := by
      obtain ⟨a, c, e⟩ := OwnF.form hI.own
      exact ⟨a, c, by rw [e, List.length_map]⟩
    have HXX := hid0 hxx
    have hql : qs.length + rs.length = xs.length := by rw [hxx]; simp
    have HIO := hid0 hI
    have hsz : w2.heap.size < wr.heap.size := hI.itr.lt
    clear hxx
    cases rs with
    | nil =>
      clear hI
      go_wp2_with fail
      refine HIO.out.itr.done.mono ?_
      rintro e w' ⟨rfl, hw⟩
      rw [hw]
      clear hw
      simp only [List.isEmpty_nil]
      go_wp2_with fail
      refine (pairs_any _ b 0 _ HIO.out.head.at).mono ?_
      rintro e w3 ⟨v3, rfl, o3, g3⟩
      have H3 := hid0 (And.intro (OwnP.sl o3) (HIO.out.ext g3))
      clear o3 g3
      go_wp2
      go_ret2
      have hx1 : xs = qs := by have := HXX.out; simpa using this
      refine ⟨.slice oa qs.length oc, v3, rfl, ?_, ?_, H3.out.2.kept⟩
      · rw [hx1]; exact OwnF.sl H3.out.2.own
      · have := H3.out.1
        rw [← hx1] at this
        exact this
    | cons q rs =>
      go_wp2_with fail
      refine HIO.out.itr.done.mono ?_
      rintro e w' ⟨rfl, hw⟩
      rw [hw]
      clear hw
      simp only [List.isEmpty_cons]
      have HL : Hid ((qs.map tf).length + 1 ≤ 4294967297) := by
        show _ ≤ _
        rw [List.length_map]
        simp at hql
        omega
      by_cases h0 : ax.length = 0
      · have hz : ¬ (0 < (ax.length : Int)) := by omega
        have H0 := hid0 h0
        clear h0 hI
        go_wp2_with fail
        refine HIO.out.next.mono ?_
        rintro e w4 ⟨rfl, h4⟩
        have H4 := hid0 (show Io w b w2.heap.size g w4 (.slice oa qs.length oc) (itOn ax xs (qs.length + 1)) qs rs from by rw [itOn, if_pos H0.out]; exact h4)
        clear h4
        have hs4 : w2.heap.size < w4.heap.size := H4.out.itr.lt
        go_wp2_with fail
        refine (found_some _ q.1 q.2).mono ?_
        rintro e w5 ⟨rfl, g5⟩
        have H5 := hid0 (H4.out.ext g5)
        have hs5 := g5.size
        clear g5
        simp only [fv]
        go_wp2_with (at_builtin; refine wpList_app2 rfl (.tmp 28) (.tmp 33) rfl tyF fc_enc (w2.heap.size + 1) _ _ rfl (H5.out.own.alloc _) w5.heap.size (tf q) rfl (new_cells (cs := fc (tf q)) (by simp)) (by have := HL.out; omega) (by decide) (by simp; omega) ?_)
        intro o6 w6 g1 g2
        have H6 := hid0 ((H5.out.ext ((Kept.refl _ _).alloc _)).app g1 g2)
        clear g1 g2
        go_wp2
        go_roundg (rs.length)
        case measure => simp
        case rel => exact ⟨qs ++ [q], rs, rfl, by rw [HXX.out]; simp, by rw [List.length_append]; exact H6.out⟩
      · have hz : 0 < ax.length := by omega
        have hmod : qs.length % ax.length < ax.length := Nat.mod_lt _ hz
        have hm : (qs.length : Int).tmod (ax.length : Int) = ((qs.length % ax.length : Nat) : Int) := rfl
        obtain ⟨p, hp⟩ : ∃ p, p = qs.length % ax.length := ⟨_, rfl⟩
        rw [← hp] at hm hmod
        have HP := hid0 hp
        have hnz : (ax.length : Int) ≠ 0 := by omega
        have hi0 : (0 : Int) ≤ (p : Int) := Int.natCast_nonneg _
        have hi1 : (p : Int) < (ax.length : Int) := by omega
        obtain ⟨b5, offa, rfl, hb5, ca⟩ := HX.out.1.act hI.kept p hmod
        obtain ⟨c0, c1, c2, c3, c4, c5, c6, c7, c8, c9, c10⟩ := ca
        have HKY := hid0 (HX.out.2 _ (List.getElem_mem hmod))
        obtain ⟨a, ha⟩ : ∃ a, a = ax[p] := ⟨_, rfl⟩
        rw [← ha] at c0 c1 c2 c3 c4 c5 c6 c7 c8 c9 c10 HKY
        have HA := hid0 ha
        have H0 := hid0 h0
        clear ha hp h0 hI
        go_wp2_with fail
        refine (update_any _ b _ a HIO.out.head HKY.out).mono ?_
        rintro e w3 ⟨rfl, h3, g3⟩
        have hst : itOn ax xs (qs.length + 1) = (upd (itOn ax xs qs.length) a).1 := by
          rw [itOn, if_neg H0.out, ← HP.out, getD_mod p hmod, ← HA.out]
        rw [← hst] at h3
        have H3 := hid0 (HIO.out.turn h3 g3)
        generalize (upd (itOn ax xs qs.length) a).2 = fr
        obtain ⟨fr0, fr1, fr2⟩ := fr
        simp only [fv]
        clear h3 g3 hst c0 c1 c2 c3 c4 c5 c6 c7 c8 c9 c10
        go_wp2_with fail
        refine H3.out.next.mono ?_
        rintro e w4 ⟨rfl, h4⟩
        have H4 := hid0 h4
        clear h4
        have hs4 : w2.heap.size < w4.heap.size := H4.out.itr.lt
        go_wp2_with fail
        refine (found_some _ q.1 q.2).mono ?_
        rintro e w5 ⟨rfl, g5⟩
        have H5 := hid0 (H4.out.ext g5)
        have hs5 := g5.size
        clear g5
        simp only [fv]
        go_wp2_with (at_builtin; refine wpList_app2 rfl (.tmp 28) (.tmp 33) rfl tyF fc_enc (w2.heap.size + 1) _ _ rfl (H5.out.own.alloc _) w5.heap.size (tf q) rfl (new_cells (cs := fc (tf q)) (by simp)) (by have := HL.out; omega) (by decide) (by simp; omega) ?_)
        intro o6 w6 g1 g2
        have H6 := hid0 ((H5.out.ext ((Kept.refl _ _).alloc _)).app g1 g2)
        clear g1 g2
        go_wp2
        go_roundg (rs.length)
        case measure => simp
        case rel => exact ⟨qs ++ [q], rs, rfl, by rw [HXX.out]; simp, by rw [List.length_append]; exact H6.out⟩

end Go.Proofs.Ytlmbgkgnbebkiaa
