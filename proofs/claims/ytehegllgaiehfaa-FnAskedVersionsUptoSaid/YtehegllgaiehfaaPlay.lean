/- laws.freshActs and laws.played. -/
import Derived.Test.YtehegllgaiehfaaSHist
namespace Go.Proofs.Ytehegllgaiehfaa
open Go.RowKit

theorem hist_prefix (ax : List Ac) (j : Nat) : ∀ k, j ≤ k → k ≤ ax.length → (hist (ax.take k)).1.take (j + 1) = (hist (ax.take j)).1
  | 0, hj, _ => by
    obtain rfl : j = 0 := by omega
    simp [hist]
  | k + 1, hj, hk => by
    by_cases e : j = k + 1
    · subst e
      rw [List.take_of_length_le]
      rw [(hist_len ax (k + 1) hk).1]; omega
    · have h1 := (hist_len ax k (by omega)).1
      rw [hist_take ax k (by omega)]
      simp only
      rw [List.take_append_of_le_length (by omega)]
      exact hist_prefix ax j k (by omega) (by omega)
theorem hist_get (ax : List Ac) (k i : Nat) (hk : k ≤ ax.length) (hi : i < k + 1) : (hist ax).1.getD i [] = (hist (ax.take k)).1.getD i [] := by
  have h := hist_prefix ax k ax.length hk (Nat.le_refl _)
  rw [List.take_length] at h
  rw [← h, List.getD_eq_getElem?_getD, List.getD_eq_getElem?_getD, List.getElem?_take, if_pos hi]
/-- the function of a union or an intersection is one, and it is fresh -/
def FreshAt (ax : List Ac) (k : Nat) (h : k < ax.length) : Prop := (bits .and .i64 ax[k].kind 7 = 4 ∨ bits .and .i64 ax[k].kind 7 = 5) → freshB (mixV ax[k].mix) ((hist ax).1.getD (idx ax[k].of (k + 1)) []) ((hist ax).1.getD (idx ax[k].wit (k + 1)) []) = true
def KeyAt (a : Ac) : Prop := a.key ≠ -2147483648 ∧ ((bits .and .i64 a.kind 7 = 4 ∨ bits .and .i64 a.kind 7 = 5) → a.mix.no = false)

set_option maxRecDepth 100000 in
set_option maxHeartbeats 1000000 in
theorem freshActs_any (w : World) (v : Value) (ax : List Ac) (h : SlA w v ax) (hl : ax.length ≤ 1599289640400) (hw : ActsW ax) :
    Calls Try.prog 39 #[v] w fun e w' => ∃ b : Bool, e = .returned (.bool b) ∧ Kept Non w w' ∧ (b = true → ∀ k h, FreshAt ax k h) := by
  obtain ⟨a, cap, rfl⟩ := h.form
  have HS := hid0 (And.intro h hw)
  have hlen := (hist_len ax ax.length (Nat.le_refl _)).1
  have HG := hid0 (hist_good hw ax.length (Nat.le_refl _))
  rw [List.take_length] at hlen HG
  obtain ⟨vs, hv⟩ : ∃ vs, vs = (hist ax).1 := ⟨_, rfl⟩
  rw [← hv] at hlen HG
  have HV := hid0 hv
  have hn1 : ax.length + 1 ≤ vs.length := by omega
  have hn2 : vs.length ≤ 1599289640401 := by omega
  clear h hw hv hlen
  go_enter Try.func39, Try.ntmps39
  go_wp2_with fail
  refine (History_any _ _ ax HS.out.1 hl HS.out.2).mono ?_
  rintro e w1 ⟨o, t, vals, rfl, hH⟩
  rw [← HV.out] at hH
  obtain ⟨⟨oa, oc, rfl⟩, ta, tc, rfl⟩ := hH.form (fun s => rfl)
  have HH := hid0 hH
  clear hH
  go_wp2
  go_loopg [17] (ax.length) (fun n i wr => ∃ k : Nat, k + n = ax.length ∧ i = .int .i64 k ∧ Kept Non w1 wr ∧ ∀ j (h : j < ax.length), j < k → FreshAt ax j h)
  case atStart => exact ⟨0, by simp, rfl, Kept.refl _ _, fun j _ hj => absurd hj (by omega)⟩
  case round =>
    obtain ⟨k, hk, rfl, hK, hall⟩ := hrel
    have HK := hid0 (And.intro hK hall)
    by_cases hlt : k < ax.length
    · have hH := HH.out.ext hK
      have i1 := idx_lt ax[k].of (k + 1) (by omega)
      have i2 := idx_lt ax[k].wit (k + 1) (by omega)
      obtain ⟨g, off, s1, rfl, hg, hc1, hp1⟩ := hH.get (fun s => rfl) (idx ax[k].of (k + 1)) (by omega)
      obtain ⟨g', off', s2, he, _, hc2, hp2⟩ := hH.get (fun s => rfl) (idx ax[k].wit (k + 1)) (by omega)
      cases he
      obtain ⟨x1, y1, z1⟩ := s1
      obtain ⟨x2, y2, z2⟩ := s2
      have v1 := hc1 _ rfl
      have v2 := hc2 _ rfl
      simp only [shv] at v1 v2
      obtain ⟨b, offa, rfl, hb, ca⟩ := HS.out.1.act (HH.out.kept.trans hK) k hlt
      obtain ⟨c0, c1, c2, c3, c4, c5, c6, c7, c8, c9, c10⟩ := ca
      have hgn : g ≠ wr.heap.size := Nat.ne_of_lt hg
      have j0 : (0 : Int) ≤ (idx ax[k].of (k + 1) : Int) := Int.natCast_nonneg _
      have j1 : (idx ax[k].of (k + 1) : Int) < (vs.length : Int) := by omega
      have j2 : (0 : Int) ≤ (idx ax[k].wit (k + 1) : Int) := Int.natCast_nonneg _
      have j3 : (idx ax[k].wit (k + 1) : Int) < (vs.length : Int) := by omega
      have HP := hid0 (And.intro hp1 hp2)
      have HGG := hid0 (And.intro (GoodV.getD HG.out (idx ax[k].of (k + 1))) (GoodV.getD HG.out (idx ax[k].wit (k + 1))))
      have hfa : FreshAt ax k hlt = ((bits .and .i64 ax[k].kind 7 = 4 ∨ bits .and .i64 ax[k].kind 7 = 5) → freshB (mixV ax[k].mix) (vs.getD (idx ax[k].of (k + 1)) []) (vs.getD (idx ax[k].wit (k + 1)) []) = true) := by rw [FreshAt, ← HV.out]
      have HFA := hid0 hfa
      obtain ⟨a, ha⟩ : ∃ a, a = ax[k] := ⟨_, rfl⟩
      rw [← ha] at c0 c1 c2 c3 c4 c5 c6 c7 c8 c9 c10 v1 v2 j0 j1 j2 j3 HP HGG HFA
      obtain ⟨p1, hp1'⟩ : ∃ p, p = idx a.of (k + 1) := ⟨_, rfl⟩
      obtain ⟨p2, hp2'⟩ : ∃ p, p = idx a.wit (k + 1) := ⟨_, rfl⟩
      rw [← hp1'] at v1 j0 j1 HP HGG HFA
      rw [← hp2'] at v2 j2 j3 HP HGG HFA
      have HPI := hid0 (And.intro hp1' hp2')
      have hkk : Kept Non wr (wr.alloc (.cells (ac a).toArray 47)) := (Kept.refl _ _).alloc _
      have HKK := hid0 hkk
      clear hc1 hc2 hp1 hp2 hH i1 i2 ha hall hK hp1' hp2' hkk hfa
      go_wp2_with fail
      refine (SIndex_any _ a.of (k + 1) (by omega) (by omega)).mono ?_
      rintro e w' ⟨rfl, hw⟩
      rw [hw, ← HPI.out.1]
      clear hw
      go_wp2_with fail
      refine (SIndex_any _ a.wit (k + 1) (by omega) (by omega)).mono ?_
      rintro e w' ⟨rfl, hw⟩
      rw [hw, ← HPI.out.2]
      clear hw
      have step : ∀ W, Kept Non wr W → FreshAt ax k hlt → Kept Non w1 W ∧ ∀ j (h : j < ax.length), j < k + 1 → FreshAt ax j h := fun W hW hf => ⟨HK.out.1.trans hW, fun j hj hlt' => by
        by_cases e : j = k
        · subst e; exact hf
        · exact HK.out.2 j hj (by omega)⟩
      have HST := hid0 step
      clear step
      have ways : bits .and .i64 a.kind 7 = 4 ∨ bits .and .i64 a.kind 7 = 5 ∨ (bits .and .i64 a.kind 7 ≠ 4 ∧ bits .and .i64 a.kind 7 ≠ 5) := by omega
      rcases ways with hq | hq | hq
      · have q4 : (bits .and .i64 a.kind 7 == 4) = true := by simpa using hq
        clear hq
        go_wp2_with fail
        refine (fresh_any _ _ _ _ _ a.mix (HP.out.1.sl.ext HKK.out) (HP.out.2.sl.ext HKK.out) HGG.out.1.len HGG.out.2.len).mono ?_
        rintro e W3 ⟨rfl, g3⟩
        cases hfr : freshB (mixV a.mix) (vs.getD p1 []) (vs.getD p2 []) with
        | false =>
          have HG3 := hid0 g3
          clear g3 hfr
          go_wp2
          go_ret
          exact ⟨false, rfl, (HH.out.kept.trans (HK.out.1.trans HKK.out)).trans HG3.out, fun h => by cases h⟩
        | true =>
          have HG3 := hid0 (And.intro g3 hfr)
          clear g3 hfr
          go_wp2
          go_roundg (gk - 1)
          case measure => omega
          case rel =>
            obtain ⟨s1, s2⟩ := HST.out W3 (HKK.out.trans HG3.out.1) (by rw [HFA.out]; exact fun _ => HG3.out.2)
            exact ⟨k + 1, by omega, by go_num, s1, s2⟩
      · have q4 : (bits .and .i64 a.kind 7 == 4) = false := by rw [hq]; rfl
        have q5 : (bits .and .i64 a.kind 7 == 5) = true := by simpa using hq
        clear hq
        go_wp2_with fail
        refine (fresh_any _ _ _ _ _ a.mix (HP.out.1.sl.ext HKK.out) (HP.out.2.sl.ext HKK.out) HGG.out.1.len HGG.out.2.len).mono ?_
        rintro e W3 ⟨rfl, g3⟩
        cases hfr : freshB (mixV a.mix) (vs.getD p1 []) (vs.getD p2 []) with
        | false =>
          have HG3 := hid0 g3
          clear g3 hfr
          go_wp2
          go_ret
          exact ⟨false, rfl, (HH.out.kept.trans (HK.out.1.trans HKK.out)).trans HG3.out, fun h => by cases h⟩
        | true =>
          have HG3 := hid0 (And.intro g3 hfr)
          clear g3 hfr
          go_wp2
          go_roundg (gk - 1)
          case measure => omega
          case rel =>
            obtain ⟨s1, s2⟩ := HST.out W3 (HKK.out.trans HG3.out.1) (by rw [HFA.out]; exact fun _ => HG3.out.2)
            exact ⟨k + 1, by omega, by go_num, s1, s2⟩
      · have q4 : (bits .and .i64 a.kind 7 == 4) = false := by simpa using hq.1
        have q5 : (bits .and .i64 a.kind 7 == 5) = false := by simpa using hq.2
        have HQ := hid0 hq
        clear hq
        go_wp2
        go_roundg (gk - 1)
        case measure => omega
        case rel =>
          obtain ⟨s1, s2⟩ := HST.out _ HKK.out (by rw [HFA.out]; intro h; rcases h with h | h; exact absurd h HQ.out.1; exact absurd h HQ.out.2)
          exact ⟨k + 1, by omega, by go_num, s1, s2⟩
    · clear hK hall
      go_wp2
      go_ret
      exact ⟨true, rfl, HH.out.kept.trans HK.out.1, fun _ k h => HK.out.2 k h (by omega)⟩

/-- what acts must be so that they can be played -/
structure Played (ax : List Ac) : Prop where
  key : ∀ a ∈ ax, KeyAt a
  fresh : ∀ k h, FreshAt ax k h
set_option maxRecDepth 100000 in
set_option maxHeartbeats 1000000 in
theorem played_any (w : World) (v : Value) (ax : List Ac) (h : SlA w v ax) (hl : ax.length ≤ 1599289640400) (hw : ActsW ax) :
    Calls Try.prog 18 #[v] w fun e w' => ∃ b : Bool, e = .returned (.bool b) ∧ Kept Non w w' ∧ (b = true → Played ax) := by
  obtain ⟨a, cap, rfl⟩ := h.form
  have HS := hid0 (And.intro h hw)
  clear h hw
  go_enter Try.func18, Try.ntmps18
  go_wp2
  go_loopg [8] (ax.length) (fun n i wr => ∃ k : Nat, k + n = ax.length ∧ i = .int .i64 k ∧ Kept Non w wr ∧ ∀ p ∈ ax.take k, KeyAt p)
  case atStart => exact ⟨0, by simp, rfl, Kept.refl _ _, by simp⟩
  case round =>
    obtain ⟨k, hk, rfl, hK, hall⟩ := hrel
    have HK := hid0 (And.intro hK hall)
    by_cases hlt : k < ax.length
    · obtain ⟨b, offa, rfl, hb, ca⟩ := HS.out.1.act hK k hlt
      obtain ⟨c0, c1, c2, c3, c4, c5, c6, c7, c8, c9, c10⟩ := ca
      obtain ⟨a, ha⟩ : ∃ a, a = ax[k] := ⟨_, rfl⟩
      rw [← ha] at c0 c1 c2 c3 c4 c5 c6 c7 c8 c9 c10
      have HA := hid0 ha
      clear hK hall ha
      have rel : KeyAt a → ∀ p ∈ ax.take (k + 1), KeyAt p := fun h => all_take_succ hlt HK.out.2 (by rw [← HA.out]; exact h)
      have HR := hid0 rel
      clear rel
      by_cases hkey : a.key = -2147483648
      · have q0 : (a.key == -2147483648) = true := by simpa using hkey
        clear hkey
        go_wp2
        go_ret
        exact ⟨false, rfl, HK.out.1.alloc _, fun h => by cases h⟩
      · have q0 : (a.key == -2147483648) = false := by simpa using hkey
        have HKy := hid0 hkey
        clear hkey
        cases hno : a.mix.no with
        | false =>
          rw [hno] at c5
          have HN := hid0 hno
          clear hno
          go_wp2
          go_roundg (gk - 1)
          case measure => omega
          case rel => exact ⟨k + 1, by omega, by go_num, HK.out.1.alloc _, HR.out ⟨HKy.out, fun _ => HN.out⟩⟩
        | true =>
          rw [hno] at c5
          clear hno
          have ways : bits .and .i64 a.kind 7 = 4 ∨ bits .and .i64 a.kind 7 = 5 ∨ (bits .and .i64 a.kind 7 ≠ 4 ∧ bits .and .i64 a.kind 7 ≠ 5) := by omega
          rcases ways with hq | hq | hq
          · have q4 : (bits .and .i64 a.kind 7 == 4) = true := by simpa using hq
            clear hq
            go_wp2
            go_ret
            exact ⟨false, rfl, HK.out.1.alloc _, fun h => by cases h⟩
          · have q4 : (bits .and .i64 a.kind 7 == 4) = false := by rw [hq]; rfl
            have q5 : (bits .and .i64 a.kind 7 == 5) = true := by simpa using hq
            clear hq
            go_wp2
            go_ret
            exact ⟨false, rfl, HK.out.1.alloc _, fun h => by cases h⟩
          · have q4 : (bits .and .i64 a.kind 7 == 4) = false := by simpa using hq.1
            have q5 : (bits .and .i64 a.kind 7 == 5) = false := by simpa using hq.2
            have HQ := hid0 hq
            clear hq
            go_wp2
            go_roundg (gk - 1)
            case measure => omega
            case rel => exact ⟨k + 1, by omega, by go_num, HK.out.1.alloc _, HR.out ⟨HKy.out, fun h => by rcases h with h | h; exact absurd h HQ.out.1; exact absurd h HQ.out.2⟩⟩
    · clear hK hall
      go_wp2_with fail
      refine (freshActs_any _ _ ax (HS.out.1.ext HK.out.1) hl HS.out.2).mono ?_
      rintro e w2 ⟨b, rfl, g1, g2⟩
      have HG := hid0 (And.intro g1 g2)
      clear g1 g2
      go_wp2
      go_ret
      exact ⟨b, rfl, HK.out.1.trans HG.out.1, fun hb => ⟨fun p hp => HK.out.2 p (by rw [List.take_of_length_le (by omega)]; exact hp), HG.out.2 hb⟩⟩

end Go.Proofs.Ytehegllgaiehfaa
