/- The walk of FnOrderFree. -/
import Derived.Test.YtlmbgkgnbebkiaaEq3
import Derived.Test.YtlmbgkgnbebkiaaHist
import Derived.Test.YtlmbgkgnbebkiaaBs
import Derived.Test.YtlmbgkgnbebkiaaDrop
import Derived.Test.YtlmbgkgnbebkiaaSame
import Derived.Test.YtlmbgkgnbebkiaaPl
namespace Go.Proofs.Ytlmbgkgnbebkiaa
open Go.RowKit

/-- pairs that are told, and those that are left, are those of a set -/
structure Mixd (xs qs rs : Ps) : Prop where
  up : Up rs
  all : ∀ k, look k xs = (look k (treeP qs)).or (look k rs)
  one : ∀ k, (look k rs).isSome = true → look k (treeP qs) = none
  kq : KeysOk qs
  kr : KeysOk rs
  len : qs.length + rs.length = xs.length
theorem Mixd.start {xs : Ps} (h : Up xs) (hk : KeysOk xs) : Mixd xs [] xs := ⟨h, fun k => by simp [treeP, look], fun k _ => rfl, (fun _ h => by cases h), hk, by simp⟩
theorem Mixd.step {xs qs rs : Ps} (h : Mixd xs qs rs) (i : Nat) (hi : i < rs.length) : Mixd xs (qs ++ [rs[i]]) (drop rs[i].1 rs) := by
  have hm : rs[i] ∈ rs := List.getElem_mem hi
  have hl := mem_look h.up hm
  have htl : ∀ k, look k (treeP (qs ++ [rs[i]])) = if k = rs[i].1 then some rs[i].2 else look k (treeP qs) := fun k => by
    rw [look_treeP_append, treeP_up (xs := [rs[i]]) (List.pairwise_singleton _ _)]
    by_cases e : k = rs[i].1
    · subst e; simp [look]
    · rw [if_neg e, look, if_neg (fun h => e h.symm)]; simp [look]
  refine ⟨h.up.drop _, fun k => ?_, fun k hk => ?_, fun a ha => ?_, fun a ha => h.kr a (List.mem_filter.1 ha).1, ?_⟩
  · rw [htl, look_drop, h.all k]
    by_cases e : k = rs[i].1
    · rw [if_pos e, e, hl, h.one rs[i].1 (by rw [hl]; rfl)]; simp
    · rw [if_neg e, if_neg e]
  · rw [look_drop] at hk
    by_cases e : k = rs[i].1
    · rw [if_pos e] at hk; cases hk
    · rw [if_neg e] at hk
      rw [htl, if_neg e]; exact h.one k hk
  · rcases List.mem_append.1 ha with ha | ha
    · exact h.kq a ha
    · simp at ha; subst ha; exact h.kr _ hm
  · have h1 := drop_length h.up rs[i].1
    rw [find_look, hl] at h1
    simp at h1
    have := h.len
    simp
    omega
theorem Mixd.done {xs qs : Ps} (hx : Up xs) (h : Mixd xs qs []) : treeP qs = xs := (up_treeP _).ext hx fun k => by
  have := h.all k
  simp [look] at this
  exact this.symm

set_option maxRecDepth 100000 in
set_option maxHeartbeats 1000000 in
theorem FnOrderFree_walk (w : World) (vp : Value) (p : Ps) (hp : SlP w vp p) (lp : p.length ≤ 8796093021952) (wp : KeysW p) (_dp : DataR p) (vns : Value) (ns : List Int) (hns : SlN w vns ns) (lns : ns.length ≤ 17592186043904) (_wns : True) (_dns : True) :
    Calls Try.prog 8 #[vp, vns] w fun e w' => e = .returned (.bool true) ∧ Kept Non w w' := by
  obtain ⟨na, ncc, rfl⟩ := hns.form
  have HWp := hid0 wp
  have G0 := hid0 (And.intro (Kept.refl Non w) (And.intro hp hns))
  have hlp : (treeP p).length ≤ 4294967296 := by
    have := treeP_len wp p.length
    rwa [List.take_length] at this
  clear hp wp hns
  cases hkp : keyedB p with
  | false =>
    have HKp := hid0 hkp
    clear hkp
    go_enter Try.func8, Try.ntmps8
    go_wp2_with fail
    refine (Tree_any _ _ p G0.out.2.1 (by omega) HWp.out).mono ?_
    rintro e W1 ⟨tv, rfl, o, g⟩
    obtain ⟨st, rfl, pt⟩ := OwnP.pv o
    have G1 := hid0 (And.intro (G0.out.1.trans g) (And.intro (G0.out.2.1.ext g) (And.intro (G0.out.2.2.ext g) (And.intro pt (fun b (hb : OwnS (shv st) b) => o.ltS hb)))))
    clear g o pt G0
    go_wp2_with fail
    refine (keyed_any _ _ p G1.out.2.1 (by omega)).mono ?_
    rintro e W2 ⟨rfl, g⟩
    rw [HKp.out]
    have G2 := hid0 (And.intro (G1.out.1.trans g) (And.intro (G1.out.2.1.ext g) (And.intro (G1.out.2.2.1.ext g) (And.intro (G1.out.2.2.2.1.ext g) (fun b (hb : OwnS (shv st) b) => Nat.lt_of_lt_of_le (G1.out.2.2.2.2 b hb) g.size)))))
    clear g G1
    go_wp2
    go_ret
    exact ⟨rfl, G2.out.1⟩
  | true =>
    have HKp := hid0 hkp
    clear hkp
    go_enter Try.func8, Try.ntmps8
    go_wp2_with fail
    refine (Tree_any _ _ p G0.out.2.1 (by omega) HWp.out).mono ?_
    rintro e W1 ⟨tv, rfl, o, g⟩
    obtain ⟨st, rfl, pt⟩ := OwnP.pv o
    have G1 := hid0 (And.intro (G0.out.1.trans g) (And.intro (G0.out.2.1.ext g) (And.intro (G0.out.2.2.ext g) (And.intro pt (fun b (hb : OwnS (shv st) b) => o.ltS hb)))))
    clear g o pt G0
    go_wp2_with fail
    refine (keyed_any _ _ p G1.out.2.1 (by omega)).mono ?_
    rintro e W2 ⟨rfl, g⟩
    rw [HKp.out]
    have G2 := hid0 (And.intro (G1.out.1.trans g) (And.intro (G1.out.2.1.ext g) (And.intro (G1.out.2.2.1.ext g) (And.intro (G1.out.2.2.2.1.ext g) (fun b (hb : OwnS (shv st) b) => Nat.lt_of_lt_of_le (G1.out.2.2.2.2 b hb) g.size)))))
    clear g G1
    have hkt : KeysOk (treeP p) := fun a ha => HWp.out.ok HKp.out a (treeP_mem ha)
    have hup := up_treeP p
    have hV := fun (W : World) (v : Value) (qs : Ps) (h : SlP W v qs) (hl : qs.length ≤ 4294967296) (hk : KeysOk qs) => Visit_any W v qs h (by omega) hk
    have hE2 := fun (W : World) (v : Value) (qs : Ps) (h1 : SlP W vp p) (h2 : SlP W v qs) (hl : qs.length ≤ 4294967296) (hk : KeysOk qs) => Equals_any W vp v p qs h1 h2 (by omega) (by omega) (HWp.out.ok HKp.out) hk
    obtain ⟨xs, hxs⟩ : ∃ xs, xs = treeP p := ⟨_, rfl⟩
    rw [← hxs] at hkt hup hE2 hlp G2
    have HX := hid0 (And.intro hkt (And.intro hup (And.intro hV hE2)))
    clear hkt hup hV hE2 hxs
    go_wp2
    go_loopg [6, 7] (xs.length) (fun n s o wr => ∃ (qs rs : Ps) (sh : Sh), n = rs.length ∧ s = shv sh ∧ Mixd xs qs rs ∧ SlP wr (shv sh) rs ∧ OwnP W2.heap.size wr o qs ∧ (∀ b, OwnS (shv sh) b → ¬ OwnS o b) ∧ Kept Non W2 wr)
    case atStart => exact ⟨[], xs, st, rfl, rfl, Mixd.start HX.out.2.1 HX.out.1, G2.out.2.2.2.1.sl, Own.nil _, fun b _ h => by simp [OwnS, Value.ownBlock] at h, Kept.refl _ _⟩
    case round =>
      obtain ⟨qs, rs, ⟨x1, y1, z1⟩, rfl, rfl, hM, hS, hO, hD, hK⟩ := hrel
      obtain ⟨oa, oc, rfl⟩ := (OwnP.sl hO).form
      obtain rfl : y1 = rs.length := by
        obtain ⟨a, c, e⟩ := hS.form
        simp only [shv, Value.slice.injEq] at e
        exact e.2.1
      simp only [shv] at hS hD ⊢
      have HI := hid0 (And.intro hM (And.intro hS (And.intro hO (And.intro hD hK))))
      have hql := hM.len
      have hsz := hK.size
      have HOlt : Hid (∀ {b}, OwnS (.slice oa qs.length oc) b → b < wr.heap.size) := fun hb => hO.ltS hb
      clear hM
      by_cases hne : rs.length = 0
      · have hre : rs = [] := List.length_eq_zero_iff.1 hne
        subst hre
        clear hS hO hD hK
        have HT := hid0 (HI.out.1.done HX.out.2.1)
        have hqn : qs.length ≤ 4294967296 := by simp at hql; omega
        go_wp2_with fail
        refine (HX.out.2.2.1 _ _ qs (OwnP.sl HI.out.2.2.1) hqn HI.out.1.kq).mono ?_
        rintro e W3 ⟨v3, rfl, o3, g3⟩
        rw [HT.out] at o3
        have hk3 := HI.out.2.2.2.2.trans g3
        have H3 := hid0 (And.intro (OwnP.sl o3) (And.intro (OwnP.sl (HI.out.2.2.1.ext' g3)) hk3))
        clear o3 g3 hk3
        go_wp2_with fail
        refine (Same_any _ _ _ xs xs H3.out.1 (G2.out.2.2.2.1.sl.ext H3.out.2.2) (by omega)).mono ?_
        rintro e W4 ⟨rfl, g4⟩
        rw [decide_eq_true (rfl : xs = xs)]
        have H4 := hid0 (And.intro (H3.out.2.1.ext g4) (H3.out.2.2.trans g4))
        clear g4
        go_wp2_with fail
        refine (Equals_any _ _ _ qs xs H4.out.1 (G2.out.2.2.2.1.sl.ext H4.out.2) (by omega) (by omega) HI.out.1.kq HX.out.1).mono ?_
        rintro e W5 ⟨rfl, g5⟩
        rw [decide_eq_true (by rw [HT.out, treeP_up HX.out.2.1])]
        have H5 := hid0 (And.intro (H4.out.1.ext g5) (H4.out.2.trans g5))
        clear g5
        go_wp2_with fail
        refine (HX.out.2.2.2 _ _ qs (G2.out.2.1.ext H5.out.2) H5.out.1 hqn HI.out.1.kq).mono ?_
        rintro e W6 ⟨rfl, g6⟩
        rw [decide_eq_true HT.out.symm]
        have H6 := hid0 ((G2.out.1.trans H5.out.2).trans g6)
        clear g6
        go_wp2
        go_ret
        exact ⟨rfl, H6.out⟩
      · have hpos : (0 : Int) < (rs.length : Int) := by omega
        have hposN : 0 < rs.length := by omega
        by_cases h0 : ns.length = 0
        · have hz : ¬ (0 < (ns.length : Int)) := by omega
          obtain ⟨b, off, rfl, hb, c0, c1⟩ := hS.pair (Kept.refl _ _) 0 hposN
          simp only [Nat.zero_mul, Nat.add_zero] at c0 c1
          clear h0
          clear hS hO hD hK
          go_wp2_with (at_builtin; refine wpList_app2 rfl (.tmp 32) (.tmp 37) rfl tyP pc_enc W2.heap.size _ _ rfl (HI.out.2.2.1.alloc _) wr.heap.size rs[0] rfl (new_cells (cs := pc rs[0]) (by simp)) (by omega) (by decide) (by simp; omega) ?_)
          intro o5 w5 g1 g2
          have hkA : Kept Non wr (wr.alloc (.cells #[.int .i32 rs[0].1, .int .i64 rs[0].2] 42)) := (Kept.refl _ _).alloc _
          have s5 : SlP w5 (.slice (some ⟨b, off, none⟩) rs.length z1) rs := (HI.out.2.1.ext hkA).kept g2 (fun c hc => HI.out.2.2.2.1 c hc)
          have k5 : Kept Non W2 w5 := (HI.out.2.2.2.2.trans hkA).trans' g2 (fun i hi e => by have := HI.out.2.2.1.block i e; omega)
          obtain ⟨b', off', hbe, hb', d0, d1⟩ := s5.pair (Kept.refl _ _) 0 (by omega)
          cases hbe
          simp only [Nat.zero_mul, Nat.add_zero] at d0
          have H5 := hid0 (And.intro s5 (And.intro g1 k5))
          clear s5 k5 g1 g2 hkA c0 c1 d1
          go_wp2_with fail
          refine (Drop_any _ _ rs rs[0].1 H5.out.1 (by omega)).mono ?_
          rintro e w6 ⟨v6, rfl, o6, g6⟩
          obtain ⟨s6, rfl, p6⟩ := OwnP.pv o6
          have hD6 : ∀ b, OwnS (shv s6) b → ¬ OwnS o5 b := fun c hc hc' => by
            have h1 := o6.block c hc
            have h2 := H5.out.2.1.ltS hc'
            omega
          have hMs := HI.out.1.step 0 (by omega)
          have H6 := hid0 (And.intro p6.sl (And.intro (H5.out.2.1.ext' g6) (And.intro hD6 (And.intro (H5.out.2.2.trans g6) hMs))))
          have hmeas : (drop rs[0].1 rs).length < rs.length := by have := hMs.len; simp at this; omega
          clear p6 o6 g6 hD6 hMs d0
          go_wp2
          go_roundg ((drop rs[0].1 rs).length)
          case measure => exact hmeas
          case rel => exact ⟨qs ++ [rs[0]], drop rs[0].1 rs, s6, rfl, rfl, H6.out.2.2.2.2, H6.out.1, H6.out.2.1, H6.out.2.2.1, H6.out.2.2.2.1⟩
        · have hz : 0 < ns.length := by omega
          have hmod : qs.length % ns.length < ns.length := Nat.mod_lt _ hz
          have hm : (qs.length : Int).tmod (ns.length : Int) = ((qs.length % ns.length : Nat) : Int) := rfl
          obtain ⟨j, hj⟩ : ∃ j, j = qs.length % ns.length := ⟨_, rfl⟩
          rw [← hj] at hm hmod
          have hnz : (ns.length : Int) ≠ 0 := by omega
          have hi0 : (0 : Int) ≤ (j : Int) := Int.natCast_nonneg _
          have hi1 : (j : Int) < (ns.length : Int) := by omega
          obtain ⟨b5, off5, rfl, hb5, c5⟩ := (G2.out.2.2.1.ext hK).num (Kept.refl _ _) j hmod
          have hil := idx_lt ns[j] rs.length hposN
          obtain ⟨ii, hii⟩ : ∃ ii, ii = idx ns[j] rs.length := ⟨_, rfl⟩
          rw [← hii] at hil
          have HII := hid0 hii
          obtain ⟨b, off, rfl, hb, c0, c1⟩ := hS.pair (Kept.refl _ _) ii hil
          have hi2 : (0 : Int) ≤ (ii : Int) := Int.natCast_nonneg _
          have hi3 : (ii : Int) < (rs.length : Int) := by omega
          clear hj hii
          clear hS hO hD hK
          go_wp2_with fail
          refine (SIndex_any _ ns[j] rs.length hposN (by omega)).mono ?_
          rintro e w' ⟨rfl, hw⟩
          rw [hw, ← HII.out]
          clear hw
          go_wp2_with (at_builtin; refine wpList_app2 rfl (.tmp 32) (.tmp 37) rfl tyP pc_enc W2.heap.size _ _ rfl (HI.out.2.2.1.alloc _) wr.heap.size rs[ii] rfl (new_cells (cs := pc rs[ii]) (by simp)) (by omega) (by decide) (by simp; omega) ?_)
          intro o5 w5 g1 g2
          have hkA : Kept Non wr (wr.alloc (.cells #[.int .i32 rs[ii].1, .int .i64 rs[ii].2] 42)) := (Kept.refl _ _).alloc _
          have s5 : SlP w5 (.slice (some ⟨b, off, none⟩) rs.length z1) rs := (HI.out.2.1.ext hkA).kept g2 (fun c hc => HI.out.2.2.2.1 c hc)
          have k5 : Kept Non W2 w5 := (HI.out.2.2.2.2.trans hkA).trans' g2 (fun i hi e => by have := HI.out.2.2.1.block i e; omega)
          obtain ⟨b', off', hbe, hb', d0, d1⟩ := s5.pair (Kept.refl _ _) ii (by omega)
          cases hbe
          have H5 := hid0 (And.intro s5 (And.intro g1 k5))
          clear s5 k5 g1 g2 hkA c0 c1 d1
          go_wp2_with fail
          refine (Drop_any _ _ rs rs[ii].1 H5.out.1 (by omega)).mono ?_
          rintro e w6 ⟨v6, rfl, o6, g6⟩
          obtain ⟨s6, rfl, p6⟩ := OwnP.pv o6
          have hD6 : ∀ b, OwnS (shv s6) b → ¬ OwnS o5 b := fun c hc hc' => by
            have h1 := o6.block c hc
            have h2 := H5.out.2.1.ltS hc'
            omega
          have hMs := HI.out.1.step ii (by omega)
          have H6 := hid0 (And.intro p6.sl (And.intro (H5.out.2.1.ext' g6) (And.intro hD6 (And.intro (H5.out.2.2.trans g6) hMs))))
          have hmeas : (drop rs[ii].1 rs).length < rs.length := by have := hMs.len; simp at this; omega
          clear p6 o6 g6 hD6 hMs d0
          go_wp2
          go_roundg ((drop rs[ii].1 rs).length)
          case measure => exact hmeas
          case rel => exact ⟨qs ++ [rs[ii]], drop rs[ii].1 rs, s6, rfl, rfl, H6.out.2.2.2.2, H6.out.1, H6.out.2.1, H6.out.2.2.1, H6.out.2.2.2.1⟩

end Go.Proofs.Ytlmbgkgnbebkiaa
