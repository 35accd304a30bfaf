/- impl.Walk and spec.Turned. -/
import Derived.Test.YtlmbgkgnbebkiaaItI
import Derived.Test.YtlmbgkgnbebkiaaFP
namespace Go.Proofs.Ytlmbgkgnbebkiaa
open Go.RowKit

theorem lub_next {xs qs rs : Ps} {q : Int × Int} (h : Up xs) (e : xs = qs ++ q :: rs) : lubP q.1 false xs = rs.head? := by
  subst e
  obtain ⟨_, h2, h3⟩ := List.pairwise_append.1 h
  obtain ⟨h4, _⟩ := List.pairwise_cons.1 h2
  unfold lubP
  rw [List.find?_append, List.find?_cons_of_neg (by simp)]
  have : qs.find? (fun a => decide (q.1 < a.1) || (false && a.1 == q.1)) = none := by
    rw [List.find?_eq_none]
    intro a ha
    have := h3 a ha q (List.mem_cons_self ..)
    simp; omega
  rw [this, Option.none_or]
  cases rs with
  | nil => rfl
  | cons r rs => rw [List.find?_cons_of_pos (by have := h4 r (List.mem_cons_self ..); simp; omega)]; rfl
theorem glb_next {xs qs rs : Ps} {q : Int × Int} (h : Up xs) (e : xs.reverse = qs ++ q :: rs) : glbP q.1 false xs = rs.head? := by
  have e' : xs = rs.reverse ++ q :: qs.reverse := by
    have := congrArg List.reverse e
    simpa using this
  subst e'
  obtain ⟨_, h2, h3⟩ := List.pairwise_append.1 h
  obtain ⟨h4, _⟩ := List.pairwise_cons.1 h2
  unfold glbP
  rw [List.filter_append, List.filter_cons_of_neg (by simp), filter_all (fun a ha => by have := h3 a ha q (List.mem_cons_self ..); simp; omega)]
  have : (qs.reverse.filter fun a => decide (a.1 < q.1) || (false && a.1 == q.1)) = [] := by
    rw [List.filter_eq_nil_iff]
    intro a ha
    have := h4 a ha
    simp; omega
  rw [this, List.append_nil, List.getLast?_reverse]
theorem fdOf_some (q : Int × Int) : fdOf (some q) = (q.1, q.2, true) := rfl
theorem FdAt.keptO {S : Nat → Prop} {w w' : World} {b : Nat} {f : Fd} (h : FdAt w b f) (hk : Kept S w w') (hb : ¬ S b) : FdAt w' b f := ⟨(hk.block b (block_lt h.blk) hb).trans h.blk⟩
theorem FdAt.setK {w : World} {b : Nat} {g : Fd} : Kept (One b) w (((w.setCell ⟨b, 0, none⟩ (.int .i32 g.1)).setCell ⟨b, 1, none⟩ (.int .i64 g.2.1)).setCell ⟨b, 2, none⟩ (.bool g.2.2)) := (((Kept.refl _ _).setOne _ _).setOne _ _).setOne _ _
/-- a Found's variable, a tree and what has been told, younger than w -/
structure Wk (w : World) (b nb : Nat) (xs : Ps) (wr : World) (f : Fd) (o : Value) (qs : Ps) : Prop where
  head : Head wr b xs
  fd : FdAt wr nb f
  own : OwnF (nb + 1) wr o (qs.map tf)
  kept : Kept Non w wr
  nb0 : w.heap.size ≤ nb
  bn : b < nb
theorem Wk.ext {w wr w' : World} {b nb : Nat} {xs qs : Ps} {f : Fd} {o : Value} (h : Wk w b nb xs wr f o qs) (hk : Kept Non wr w') : Wk w b nb xs w' f o qs := ⟨h.head.ext hk, h.fd.ext hk, h.own.ext' hk, h.kept.trans hk, h.nb0, h.bn⟩
theorem Wk.app {w wr w' : World} {b nb : Nat} {xs qs : Ps} {f : Fd} {o v' : Value} {q : Int × Int} (h : Wk w b nb xs wr f o qs) (g1 : OwnF (nb + 1) w' v' (qs.map tf ++ [tf q])) (g2 : Kept (OwnS o) wr w') : Wk w b nb xs w' f v' (qs ++ [q]) := by
  have hs := h.nb0
  have hb := h.bn
  refine ⟨h.head.kept g2 (h.own.old (by omega)) (h.own.not_blk (by decide)), h.fd.keptO g2 (h.own.old (by omega)), by rw [List.map_append]; exact g1, h.kept.trans' g2 (fun i hi e => by have := h.own.block i e; omega), h.nb0, h.bn⟩
theorem Wk.set {w wr : World} {b nb : Nat} {xs qs : Ps} {f : Fd} {o : Value} (h : Wk w b nb xs wr f o qs) (g : Fd) : Wk w b nb xs (((wr.setCell ⟨nb, 0, none⟩ (.int .i32 g.1)).setCell ⟨nb, 1, none⟩ (.int .i64 g.2.1)).setCell ⟨nb, 2, none⟩ (.bool g.2.2)) g o qs := by
  have hb := h.bn
  have hs := h.nb0
  refine ⟨h.head.kept FdAt.setK (fun e => by have e' : b = nb := e; omega) (fun T hT c hc e => by have e' : c = nb := e; subst e'; exact h.fd.not_blk hT hc), h.fd.set, h.own.ext FdAt.setK (fun c hc e => by have e' : c = nb := e; omega), h.kept.trans' FdAt.setK (fun i hi e => by have e' : i = nb := e; omega), h.nb0, h.bn⟩

set_option maxRecDepth 100000 in
set_option maxHeartbeats 1000000 in
theorem Walk_up (w : World) (v : Value) (ps : Ps) (most : Nat) (h : SlP w v ps) (hl : ps.length ≤ 8796093022208) (hok : KeysOk ps) (hm : (treeP ps).length < most) :
    Calls Try.prog 22 #[v, .bool false, .int .i64 most] w (NewF w ((treeP ps).map tf)) := by
  have HT := hid0 (tree_any w v ps h hl hok)
  have hlen : (treeP ps).length ≤ 4294967296 := by
    have := Ok.length (treeP_ok hok ps.length)
    rw [List.take_length] at this
    omega
  have HU := hid0 (up_treeP ps)
  obtain ⟨xs, hxs⟩ : ∃ xs, xs = treeP ps := ⟨_, rfl⟩
  rw [← hxs] at HT hlen HU hm ⊢
  clear h hok hxs
  go_enter Try.func22, Try.ntmps22
  go_wp2_with fail
  refine HT.out.mono ?_
  rintro e w1 ⟨b, rfl, hb, g1, g2⟩
  have HG := hid0 (And.intro g1 g2)
  have hbl : b < w1.heap.size := g1.lt
  have hsz := g2.size
  clear g1 g2
  go_wp2_with fail
  refine (TMin_any _ b 0 xs HG.out.1.at).mono ?_
  rintro e w' ⟨rfl, hw⟩
  rw [← hw]
  clear hw
  obtain ⟨k1, d1, e1, f1⟩ := found_kd w1 xs.head?
  rw [e1]
  have HF1 := hid0 f1
  clear e1 f1
  go_wp2_with fail
  refine HF1.out.mono ?_
  rintro e w2 ⟨rfl, g3⟩
  have hsz2 := g3.size
  have HW := hid0 (And.intro (HG.out.1.ext g3) (HG.out.2.trans g3))
  clear g3 HF1
  obtain ⟨f, hf⟩ : ∃ f, f = fdOf xs.head? := ⟨_, rfl⟩
  rw [← hf]
  obtain ⟨f0, f1, f2⟩ := f
  simp only [fv]
  have hst : ∀ o, o = .cells #[.int .i32 f0, .int .i64 f1, .bool f2] 36 → Wk w b w2.heap.size xs (w2.alloc o) (fdOf xs.head?) (.slice none 0 0) [] := fun o ho => by
    subst ho
    rw [← hf]
    exact ⟨HW.out.1.ext ((Kept.refl _ _).alloc _), ⟨alloc_new _ _⟩, Own.nil _, HW.out.2.alloc _, by omega, by omega⟩
  have HST := hid0 hst
  clear hst hf
  go_wp2
  go_loopg [8] (xs.length) (fun n o wr => ∃ (qs rs : Ps), n = rs.length ∧ xs = qs ++ rs ∧ Wk w b w2.heap.size xs wr (fdOf rs.head?) o qs)
  case atStart => exact ⟨[], xs, rfl, rfl, HST.out _ rfl⟩
  case round =>
    obtain ⟨qs, rs, rfl, hx, hs⟩ := hrel
    obtain ⟨oa, oc, rfl⟩ : ∃ a c, u8 = .slice a qs.length c := by
      obtain ⟨a, c, e⟩ := OwnF.form hs.own
      exact ⟨a, c, by rw [e, List.length_map]⟩
    have HX := hid0 (And.intro hx hs)
    have hql : qs.length + rs.length = xs.length := by
      have := congrArg List.length hx
      simpa using this.symm
    have m0 := hs.fd.c0
    have m1 := hs.fd.c1
    have m2 := hs.fd.c2
    have mf := hs.fd.fz
    have hlt2 : w2.heap.size < wr.heap.size := block_lt hs.fd.blk
    have hne2 : w2.heap.size ≠ wr.heap.size := Nat.ne_of_lt hlt2
    clear hx hs
    cases rs with
    | nil =>
      simp only [List.head?_nil, fdOf] at m0 m1 m2
      go_wp2
      go_ret
      obtain ⟨hx, hs⟩ := HX.out
      rw [List.append_nil] at hx
      exact ⟨.slice oa qs.length oc, rfl, by rw [hx]; exact hs.own.mono (by have := hs.nb0; omega), hs.kept⟩
    | cons q rs =>
      simp only [List.head?_cons, fdOf] at m0 m1 m2
      have hlt : (qs.length : Int) < (most : Int) := by simp at hql; omega
      have HL : Hid ((qs.map tf).length + 1 ≤ 4294967297) := by
        show _ ≤ _
        rw [List.length_map]
        simp at hql
        omega
      go_wp2_with (at_builtin; refine wpList_app2 rfl (.tmp 31) (.tmp 33) rfl tyF fc_enc (w2.heap.size + 1) _ _ rfl (HX.out.2.own.alloc _) wr.heap.size (tf q) rfl (new_cells (cs := fc (tf q)) (by simp)) (by have := HL.out; omega) (by decide) (by simp; omega) ?_)
      intro v' w5 g1 g2
      have h5 : Wk w b w2.heap.size xs w5 (fdOf (some q)) v' (qs ++ [q]) := (HX.out.2.ext ((Kept.refl _ _).alloc _)).app g1 g2
      clear g1 g2 m0 m1 m2 mf hlt2 hne2
      have m0 := h5.fd.c0
      have m1 := h5.fd.c1
      have m2 := h5.fd.c2
      have mf := h5.fd.fz
      simp only [fdOf] at m0 m1 m2
      have H5 := hid0 h5
      clear h5
      go_wp2_with fail
      refine (TLub_any _ b 0 xs q.1 H5.out.head.at).mono ?_
      rintro e w' ⟨rfl, hw⟩
      rw [← hw]
      clear hw
      rw [lub_next HU.out HX.out.1]
      obtain ⟨k6, d6, e6, f6⟩ := found_kd w5 rs.head?
      rw [e6]
      have HF6 := hid0 f6
      clear e6 f6
      go_wp2_with fail
      refine HF6.out.mono ?_
      rintro e w6 ⟨rfl, g6⟩
      have h6 := H5.out.ext g6
      clear g6 m0 m1 m2 mf HF6
      obtain ⟨g, hg⟩ : ∃ g, g = fdOf rs.head? := ⟨_, rfl⟩
      rw [← hg]
      obtain ⟨g0, g1, g2⟩ := g
      simp only [fv]
      have m0 := h6.fd.c0
      have m1 := h6.fd.c1
      have m2 := h6.fd.c2
      have mf := h6.fd.fz
      simp only [fdOf] at m0 m1 m2
      have hset := h6.set (g0, g1, g2)
      have HSET := hid0 (And.intro hset hg)
      clear h6 hset hg
      go_wp2
      go_roundg (rs.length)
      case measure => simp
      case rel => exact ⟨qs ++ [q], rs, rfl, by rw [HX.out.1]; simp, by rw [← HSET.out.2]; exact HSET.out.1⟩

set_option maxRecDepth 100000 in
set_option maxHeartbeats 1000000 in
theorem Walk_down (w : World) (v : Value) (ps : Ps) (most : Nat) (h : SlP w v ps) (hl : ps.length ≤ 8796093022208) (hok : KeysOk ps) (hm : (treeP ps).length < most) :
    Calls Try.prog 22 #[v, .bool true, .int .i64 most] w (NewF w ((treeP ps).reverse.map tf)) := by
  have HT := hid0 (tree_any w v ps h hl hok)
  have hlen : (treeP ps).length ≤ 4294967296 := by
    have := Ok.length (treeP_ok hok ps.length)
    rw [List.take_length] at this
    omega
  have HU := hid0 (up_treeP ps)
  obtain ⟨xs, hxs⟩ : ∃ xs, xs = treeP ps := ⟨_, rfl⟩
  rw [← hxs] at HT hlen HU hm ⊢
  clear h hok hxs
  go_enter Try.func22, Try.ntmps22
  go_wp2_with fail
  refine HT.out.mono ?_
  rintro e w1 ⟨b, rfl, hb, g1, g2⟩
  have HG := hid0 (And.intro g1 g2)
  have hbl : b < w1.heap.size := g1.lt
  have hsz := g2.size
  clear g1 g2
  go_wp2_with fail
  refine (TMin_any _ b 0 xs HG.out.1.at).mono ?_
  rintro e w' ⟨rfl, hw⟩
  rw [← hw]
  clear hw
  obtain ⟨k1, d1, e1, f1⟩ := found_kd w1 xs.head?
  rw [e1]
  have HF1 := hid0 f1
  clear e1 f1
  go_wp2_with fail
  refine HF1.out.mono ?_
  rintro e w2 ⟨rfl, g3⟩
  have hsz2 := g3.size
  have HW := hid0 (And.intro (HG.out.1.ext g3) (HG.out.2.trans g3))
  clear g3 HF1
  obtain ⟨f, hf⟩ : ∃ f, f = fdOf xs.head? := ⟨_, rfl⟩
  rw [← hf]
  obtain ⟨f0, f1, f2⟩ := f
  simp only [fv]
  have hst : ∀ o, o = .cells #[.int .i32 f0, .int .i64 f1, .bool f2] 36 → Wk w b w2.heap.size xs (w2.alloc o) (fdOf xs.head?) (.slice none 0 0) [] := fun o ho => by
    subst ho
    rw [← hf]
    exact ⟨HW.out.1.ext ((Kept.refl _ _).alloc _), ⟨alloc_new _ _⟩, Own.nil _, HW.out.2.alloc _, by omega, by omega⟩
  have HST := hid0 hst
  clear hst hf
  go_wp2_with fail
  refine (TMax_any _ b 0 xs (HW.out.1.ext ((Kept.refl _ _).alloc _)).at).mono ?_
  rintro e w' ⟨rfl, hw⟩
  rw [← hw]
  clear hw
  obtain ⟨k2, d2, e2, f3⟩ := found_kd (w2.alloc (.cells #[.int .i32 f0, .int .i64 f1, .bool f2] 36)) xs.getLast?
  rw [e2]
  have HF3 := hid0 f3
  clear e2 f3
  go_wp2_with fail
  refine HF3.out.mono ?_
  rintro e w3 ⟨rfl, g4⟩
  have hs3 := (HST.out _ rfl).ext g4
  obtain ⟨g, hg⟩ : ∃ g, g = fdOf xs.getLast? := ⟨_, rfl⟩
  rw [← hg]
  obtain ⟨g0, g1, g2⟩ := g
  simp only [fv]
  have m0 : w3.cell? ⟨w2.heap.size, 0, none⟩ = some (.int .i32 (fdOf xs.head?).1) := hs3.fd.c0
  have m1 := hs3.fd.c1
  have m2 := hs3.fd.c2
  have mf := hs3.fd.fz
  have hset := hs3.set (g0, g1, g2)
  have HSET := hid0 (And.intro hset hg)
  clear hs3 hset g4 HF3 hg
  go_wp2
  go_loopg [8] (xs.length) (fun n o wr => ∃ (qs rs : Ps), n = rs.length ∧ xs.reverse = qs ++ rs ∧ Wk w b w2.heap.size xs wr (fdOf rs.head?) o qs)
  case atStart => exact ⟨[], xs.reverse, by simp, rfl, by rw [List.head?_reverse, ← HSET.out.2]; exact HSET.out.1⟩
  case round =>
    obtain ⟨qs, rs, rfl, hx, hs⟩ := hrel
    obtain ⟨oa, oc, rfl⟩ : ∃ a c, u8 = .slice a qs.length c := by
      obtain ⟨a, c, e⟩ := OwnF.form hs.own
      exact ⟨a, c, by rw [e, List.length_map]⟩
    have HX := hid0 (And.intro hx hs)
    have hql : qs.length + rs.length = xs.length := by
      have := congrArg List.length hx
      simpa using this.symm
    have m0 := hs.fd.c0
    have m1 := hs.fd.c1
    have m2 := hs.fd.c2
    have mf := hs.fd.fz
    have hlt2 : w2.heap.size < wr.heap.size := block_lt hs.fd.blk
    have hne2 : w2.heap.size ≠ wr.heap.size := Nat.ne_of_lt hlt2
    clear hx hs
    cases rs with
    | nil =>
      simp only [List.head?_nil, fdOf] at m0 m1 m2
      go_wp2
      go_ret
      obtain ⟨hx, hs⟩ := HX.out
      rw [List.append_nil] at hx
      exact ⟨.slice oa qs.length oc, rfl, by rw [hx]; exact hs.own.mono (by have := hs.nb0; omega), hs.kept⟩
    | cons q rs =>
      simp only [List.head?_cons, fdOf] at m0 m1 m2
      have hlt : (qs.length : Int) < (most : Int) := by simp at hql; omega
      have HL : Hid ((qs.map tf).length + 1 ≤ 4294967297) := by
        show _ ≤ _
        rw [List.length_map]
        simp at hql
        omega
      go_wp2_with (at_builtin; refine wpList_app2 rfl (.tmp 31) (.tmp 33) rfl tyF fc_enc (w2.heap.size + 1) _ _ rfl (HX.out.2.own.alloc _) wr.heap.size (tf q) rfl (new_cells (cs := fc (tf q)) (by simp)) (by have := HL.out; omega) (by decide) (by simp; omega) ?_)
      intro v' w5 g1 g2
      have h5 : Wk w b w2.heap.size xs w5 (fdOf (some q)) v' (qs ++ [q]) := (HX.out.2.ext ((Kept.refl _ _).alloc _)).app g1 g2
      clear g1 g2 m0 m1 m2 mf hlt2 hne2
      have m0 := h5.fd.c0
      have m1 := h5.fd.c1
      have m2 := h5.fd.c2
      have mf := h5.fd.fz
      simp only [fdOf] at m0 m1 m2
      have H5 := hid0 h5
      clear h5
      go_wp2_with fail
      refine (TGlb_any _ b 0 xs q.1 H5.out.head.at).mono ?_
      rintro e w' ⟨rfl, hw⟩
      rw [← hw]
      clear hw
      rw [glb_next HU.out HX.out.1]
      obtain ⟨k6, d6, e6, f6⟩ := found_kd w5 rs.head?
      rw [e6]
      have HF6 := hid0 f6
      clear e6 f6
      go_wp2_with fail
      refine HF6.out.mono ?_
      rintro e w6 ⟨rfl, g6⟩
      have h6 := H5.out.ext g6
      clear g6 m0 m1 m2 mf HF6
      obtain ⟨g, hg⟩ : ∃ g, g = fdOf rs.head? := ⟨_, rfl⟩
      rw [← hg]
      obtain ⟨g0, g1, g2⟩ := g
      simp only [fv]
      have m0 := h6.fd.c0
      have m1 := h6.fd.c1
      have m2 := h6.fd.c2
      have mf := h6.fd.fz
      simp only [fdOf] at m0 m1 m2
      have hset := h6.set (g0, g1, g2)
      have HSET := hid0 (And.intro hset hg)
      clear h6 hset hg
      go_wp2
      go_roundg (rs.length)
      case measure => simp
      case rel => exact ⟨qs ++ [q], rs, rfl, by rw [HX.out.1]; simp, by rw [← HSET.out.2]; exact HSET.out.1⟩

set_option maxRecDepth 100000 in
theorem Turned_any (w : World) (v : Value) (fs : List Fd) (h : SlF w v fs) (hl : fs.length ≤ 4294967296) :
    Calls Try.prog 23 #[v] w (NewF w fs.reverse) := by
  obtain ⟨a, cap, rfl⟩ := h.form
  have HS := hid0 h
  clear h
  go_enter Try.func23, Try.ntmps23
  go_wp2
  go_loopg [3, 4] (fs.length) (fun n o i wr => n ≤ fs.length ∧ i = .int .i64 ((n : Int) - 1) ∧ Kept Non w wr ∧ OwnF w.heap.size wr o (fs.drop n).reverse)
  case atStart => exact ⟨Nat.le_refl _, rfl, Kept.refl _ _, by rw [List.drop_length]; exact Own.nil _⟩
  case round =>
    obtain ⟨hk, rfl, hK, hO⟩ := hrel
    have HK := hid0 (And.intro hK hO)
    clear hO
    cases gk with
    | zero =>
      clear hK
      go_wp2
      go_ret
      exact ⟨_, rfl, by have := HK.out.2; rw [List.drop_zero] at this; exact this, HK.out.1⟩
    | succ k =>
      have hlt : k < fs.length := by omega
      have hk1 : ((k + 1 : Nat) : Int) - 1 = (k : Int) := by omega
      rw [hk1]
      obtain ⟨b, off, rfl, _, c0, c1, c2⟩ := HS.out.fd hK k hlt
      have hb : w.heap.size ≤ wr.heap.size := hK.size
      have HL : Hid (((fs.drop (k + 1)).reverse).length + 1 ≤ 4294967297) := by
        show _ ≤ _
        rw [List.length_reverse, List.length_drop]
        omega
      have hi0 : (0 : Int) ≤ (k : Int) := Int.natCast_nonneg _
      have hi1 : (k : Int) < (fs.length : Int) := by omega
      clear hK
      go_wp2_with (at_builtin; refine wpList_app rfl (.tmp 12) (.tmp 17) rfl tyF fc_enc w.heap.size _ _ rfl (HK.out.2.alloc _) wr.heap.size fs[k] rfl (new_cells (cs := fc fs[k]) (by simp)) (by have := HL.out; omega) (by decide) (by simp; omega) ?_)
      intro v' w1 g1 g2
      have HG := hid0 (And.intro g1 g2)
      clear g1 g2
      go_wp2
      go_roundg k
      case measure => omega
      case rel => exact ⟨by omega, by go_num, (HK.out.1.alloc _).newer HG.out.2, by rw [List.drop_eq_getElem_cons hlt, List.reverse_cons]; exact HG.out.1⟩

end Go.Proofs.Ytlmbgkgnbebkiaa
