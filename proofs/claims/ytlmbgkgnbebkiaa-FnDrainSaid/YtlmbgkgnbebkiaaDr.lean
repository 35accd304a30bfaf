/- impl.Drain. -/
import Derived.Test.YtlmbgkgnbebkiaaItI
import Derived.Test.YtlmbgkgnbebkiaaBs
import Derived.Test.YtlmbgkgnbebkiaaTree3
namespace Go.Proofs.Ytlmbgkgnbebkiaa
open Go.RowKit

/-- whether the greatest is taken at this turn -/
def hiAt (hs : List Bool) (i : Nat) : Bool := if hs.length = 0 then false else hs.getD (i % hs.length) false
/-- what is told while a set is drained -/
def drainF (hs : List Bool) : Nat → Nat → Ps → Ps
  | 0, _, _ => []
  | n + 1, i, xs => match (if hiAt hs i then xs.getLast? else xs.head?) with
    | none => []
    | some q => q :: drainF hs n (i + 1) (if hiAt hs i then xs.dropLast else xs.tail)
theorem drain_max {hs : List Bool} {i n : Nat} {xs : Ps} {q : Int × Int} (h : hiAt hs i = true) (hq : xs.getLast? = some q) : drainF hs (n + 1) i xs = q :: drainF hs n (i + 1) xs.dropLast := by
  rw [drainF, h]; simp [hq]
theorem drain_min {hs : List Bool} {i n : Nat} {xs : Ps} {q : Int × Int} (h : hiAt hs i = false) (hq : xs.head? = some q) : drainF hs (n + 1) i xs = q :: drainF hs n (i + 1) xs.tail := by
  rw [drainF, h]; simp [hq]
theorem hiAt_nil {hs : List Bool} (h : hs.length = 0) (i : Nat) : hiAt hs i = false := by rw [hiAt, if_pos h]
theorem hiAt_mod {hs : List Bool} {i p : Nat} (h : ¬ hs.length = 0) (hp : p = i % hs.length) (hlt : p < hs.length) : hiAt hs i = hs[p] := by
  rw [hiAt, if_neg h, ← hp, List.getD_eq_getElem?_getD, List.getElem?_eq_getElem hlt]; rfl
theorem head_some {xs : Ps} (h : ¬ xs.length = 0) : ∃ q, xs.head? = some q := by
  cases xs with
  | nil => exact absurd rfl h
  | cons a xs => exact ⟨a, rfl⟩
theorem last_some {xs : Ps} (h : ¬ xs.length = 0) : ∃ q, xs.getLast? = some q := by
  cases hl : xs.getLast? with
  | none => rw [List.getLast?_eq_none_iff] at hl; subst hl; exact absurd rfl h
  | some q => exact ⟨q, rfl⟩

/-- the state of the loop -/
structure Dr (w : World) (b base : Nat) (wr : World) (o : Value) (rs qs : Ps) : Prop where
  head : Head wr b rs
  own : OwnF base wr o (qs.map tf)
  kept : Kept Non w wr
  b0 : w.heap.size ≤ b
  bb : b < base
  bs : base ≤ wr.heap.size
theorem Dr.ext {w wr w' : World} {b base : Nat} {o : Value} {rs qs : Ps} (h : Dr w b base wr o rs qs) (hk : Kept Non wr w') : Dr w b base w' o rs qs := ⟨h.head.ext hk, h.own.ext' hk, h.kept.trans hk, h.b0, h.bb, Nat.le_trans h.bs hk.size⟩
theorem Dr.turn {w wr w' : World} {b base : Nat} {o : Value} {rs ys qs : Ps} (h : Dr w b base wr o rs qs) (h1 : Head w' b ys) (h2 : Kept (One b) wr w') : Dr w b base w' o ys qs := by
  have e0 := h.b0
  have e1 := h.bb
  exact ⟨h1, h.own.ext h2 (fun c hc e => by have e' : c = b := e; omega), h.kept.trans' h2 (fun i hi e => by have e' : i = b := e; omega), h.b0, h.bb, Nat.le_trans h.bs h2.size⟩
theorem Dr.app {w wr w' : World} {b base : Nat} {o o' : Value} {rs qs : Ps} {q : Int × Int} (h : Dr w b base wr o rs qs) (g1 : OwnF base w' o' (qs.map tf ++ [tf q])) (g2 : Kept (OwnS o) wr w') : Dr w b base w' o' rs (qs ++ [q]) := by
  have e0 := h.b0
  have e1 := h.bb
  exact ⟨h.head.kept g2 (h.own.old (by omega)) (h.own.not_blk (by decide)), by rw [List.map_append]; exact g1, h.kept.trans' g2 (fun i hi e => by have := h.own.block i e; omega), h.b0, h.bb, Nat.le_trans h.bs g2.size⟩

set_option maxRecDepth 100000 in
set_option maxHeartbeats 1000000 in
theorem Drain_any (w : World) (v vh : Value) (ps : Ps) (hs : List Bool) (h : SlP w v ps) (hl : ps.length ≤ 8796093022208) (hok : KeysOk ps) (hh : SlB w vh hs) (hlh : hs.length ≤ 140737488351232) :
    Calls Try.prog 27 #[v, vh] w (NewF w ((drainF hs (treeP ps).length 0 (treeP ps)).map tf)) := by
  obtain ⟨ha, hc, rfl⟩ := hh.form
  have HT := hid0 (tree_any w v ps h hl hok)
  have HHS := hid0 hh
  have hlen : (treeP ps).length ≤ 4294967296 := by
    have := Ok.length (treeP_ok hok ps.length)
    rw [List.take_length] at this
    omega
  obtain ⟨xs, hxs⟩ : ∃ xs, xs = treeP ps := ⟨_, rfl⟩
  rw [← hxs] at HT hlen ⊢
  obtain ⟨Z, hZ⟩ : ∃ Z, Z = drainF hs xs.length 0 xs := ⟨_, rfl⟩
  rw [← hZ]
  have HZ0 := hid0 hZ
  clear h hok hxs hh hZ
  go_enter Try.func27, Try.ntmps27
  go_wp2_with fail
  refine HT.out.mono ?_
  rintro e w1 ⟨b, rfl, hb, g1, g2⟩
  have HG := hid0 (And.intro g1 g2)
  have hb1 := g1.lt
  have hsz1 := g2.size
  clear g1 g2
  go_wp2
  go_loopg [6] (xs.length) (fun n o wr => ∃ (qs rs : Ps), n = rs.length ∧ Z = qs ++ drainF hs rs.length qs.length rs ∧ qs.length + rs.length = xs.length ∧ Dr w b w1.heap.size wr o rs qs)
  case atStart => exact ⟨[], xs, rfl, HZ0.out, by simp, HG.out.1, Own.nil _, HG.out.2, hb, hb1, Nat.le_refl _⟩
  case round =>
    obtain ⟨qs, rs, rfl, hz, hql, hD⟩ := hrel
    obtain ⟨oa, oc, rfl⟩ : ∃ a c, u6 = .slice a qs.length c := by
      obtain ⟨a, c, e⟩ := OwnF.form hD.own
      exact ⟨a, c, by rw [e, List.length_map]⟩
    have HZ := hid0 hz
    have HD := hid0 hD
    have hsz := hD.kept.size
    have HL : Hid ((qs.map tf).length + 1 ≤ 4294967297) := by
      show _ ≤ _
      rw [List.length_map]
      omega
    clear hz
    by_cases hne : rs.length = 0
    · have hre : rs = [] := List.length_eq_zero_iff.1 hne
      subst hre
      clear hD hne
      go_wp2_with fail
      refine (TIsEmpty_any _ b 0 _ HD.out.head.at).mono ?_
      rintro e w' ⟨rfl, hw⟩
      rw [← hw]
      clear hw
      simp only [List.isEmpty_nil]
      go_wp2
      go_ret
      refine ⟨.slice oa qs.length oc, rfl, ?_, HD.out.kept⟩
      have := HZ.out
      simp [drainF] at this
      rw [this]
      exact HD.out.own.mono (by omega)
    · go_wp2_with fail
      refine (TIsEmpty_any _ b 0 _ HD.out.head.at).mono ?_
      rintro e w' ⟨rfl, hw⟩
      rw [← hw]
      clear hw
      have hie : rs.isEmpty = false := by
        rw [List.isEmpty_eq_false_iff]
        intro e
        exact hne (by rw [e]; rfl)
      rw [hie]
      clear hie
      have HKD := hid0 hD.kept
      clear hD
      by_cases h0 : hs.length = 0
      · have hz : ¬ (0 < (hs.length : Int)) := by omega
        have HHI := hid0 (hiAt_nil h0 qs.length)
        clear h0
        obtain ⟨q, hq⟩ := head_some hne
        have HQ := hid0 hq
        clear hq
        go_wp2_with fail
        refine (TDeleteMin_any _ b rs HD.out.head).mono ?_
        rintro e w3 ⟨rfl, h3, g3⟩
        rw [HQ.out]
        have H3 := hid0 (HD.out.turn h3 g3)
        clear h3 g3
        simp only [kdv]
        go_wp2_with fail
        refine (found_some _ q.1 q.2).mono ?_
        rintro e w4 ⟨rfl, g4⟩
        have H4 := hid0 (H3.out.ext g4)
        clear g4
        simp only [fv]
        have hs4 := H4.out.bs
        go_wp2_with (at_builtin; refine wpList_app2 rfl (.tmp 33) (.tmp 39) rfl tyF fc_enc w1.heap.size _ _ rfl (H4.out.own.alloc _) w4.heap.size (tf q) rfl (new_cells (cs := fc (tf q)) (by simp)) (by have := HL.out; omega) (by decide) (by simp; omega) ?_)
        intro o5 w5 g1 g2
        have H5 := hid0 ((H4.out.ext ((Kept.refl _ _).alloc _)).app g1 g2)
        clear g1 g2
        go_wp2
        go_roundg ((rs.tail).length)
        case measure => have := hne; simp; omega
        case rel => exact ⟨qs ++ [q], rs.tail, rfl, by rw [HZ.out, show rs.length = (rs.tail).length + 1 from by have := hne; simp; omega, drain_min HHI.out HQ.out]; simp, by have := hql; simp; omega, H5.out⟩
      · have hz : 0 < hs.length := by omega
        have hmod : qs.length % hs.length < hs.length := Nat.mod_lt _ hz
        have hm : (qs.length : Int).tmod (hs.length : Int) = ((qs.length % hs.length : Nat) : Int) := rfl
        obtain ⟨p, hp⟩ : ∃ p, p = qs.length % hs.length := ⟨_, rfl⟩
        rw [← hp] at hm hmod
        have HHI := hid0 (hiAt_mod h0 hp hmod)
        have hnz : (hs.length : Int) ≠ 0 := by omega
        have hi0 : (0 : Int) ≤ (p : Int) := Int.natCast_nonneg _
        have hi1 : (p : Int) < (hs.length : Int) := by omega
        obtain ⟨b5, off5, rfl, hb5, c5⟩ := HHS.out.bool HKD.out p hmod
        have hb6 : b5 ≠ wr.heap.size := by have := hsz; omega
        clear hp h0
        cases hv : hs[p] with
        | false =>
          rw [hv] at c5 HHI
          clear hv
          obtain ⟨q, hq⟩ := head_some hne
          have HQ := hid0 hq
          clear hq
          go_wp2_with fail
          refine (TDeleteMin_any _ b rs HD.out.head).mono ?_
          rintro e w3 ⟨rfl, h3, g3⟩
          rw [HQ.out]
          have H3 := hid0 (HD.out.turn h3 g3)
          clear h3 g3
          simp only [kdv]
          go_wp2_with fail
          refine (found_some _ q.1 q.2).mono ?_
          rintro e w4 ⟨rfl, g4⟩
          have H4 := hid0 (H3.out.ext g4)
          clear g4
          simp only [fv]
          have hs4 := H4.out.bs
          go_wp2_with (at_builtin; refine wpList_app2 rfl (.tmp 33) (.tmp 39) rfl tyF fc_enc w1.heap.size _ _ rfl (H4.out.own.alloc _) w4.heap.size (tf q) rfl (new_cells (cs := fc (tf q)) (by simp)) (by have := HL.out; omega) (by decide) (by simp; omega) ?_)
          intro o5 w5 g1 g2
          have H5 := hid0 ((H4.out.ext ((Kept.refl _ _).alloc _)).app g1 g2)
          clear g1 g2
          go_wp2
          go_roundg ((rs.tail).length)
          case measure => have := hne; simp; omega
          case rel => exact ⟨qs ++ [q], rs.tail, rfl, by rw [HZ.out, show rs.length = (rs.tail).length + 1 from by have := hne; simp; omega, drain_min HHI.out HQ.out]; simp, by have := hql; simp; omega, H5.out⟩
        | true =>
          rw [hv] at c5 HHI
          clear hv
          obtain ⟨q, hq⟩ := last_some hne
          have HQ := hid0 hq
          clear hq
          go_wp2_with fail
          refine (TDeleteMax_any _ b rs HD.out.head).mono ?_
          rintro e w3 ⟨rfl, h3, g3⟩
          rw [HQ.out]
          have H3 := hid0 (HD.out.turn h3 g3)
          clear h3 g3
          simp only [kdv]
          go_wp2_with fail
          refine (found_some _ q.1 q.2).mono ?_
          rintro e w4 ⟨rfl, g4⟩
          have H4 := hid0 (H3.out.ext g4)
          clear g4
          simp only [fv]
          have hs4 := H4.out.bs
          go_wp2_with (at_builtin; refine wpList_app2 rfl (.tmp 25) (.tmp 31) rfl tyF fc_enc w1.heap.size _ _ rfl (H4.out.own.alloc _) w4.heap.size (tf q) rfl (new_cells (cs := fc (tf q)) (by simp)) (by have := HL.out; omega) (by decide) (by simp; omega) ?_)
          intro o5 w5 g1 g2
          have H5 := hid0 ((H4.out.ext ((Kept.refl _ _).alloc _)).app g1 g2)
          clear g1 g2
          go_wp2
          go_roundg ((rs.dropLast).length)
          case measure => have := hne; simp; omega
          case rel => exact ⟨qs ++ [q], rs.dropLast, rfl, by rw [HZ.out, show rs.length = (rs.dropLast).length + 1 from by have := hne; simp; omega, drain_max HHI.out HQ.out]; simp, by have := hql; simp; omega, H5.out⟩

end Go.Proofs.Ytlmbgkgnbebkiaa
