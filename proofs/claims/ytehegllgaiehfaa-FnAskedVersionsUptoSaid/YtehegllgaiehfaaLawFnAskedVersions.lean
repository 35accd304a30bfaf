/- The walk of FnAskedVersions. -/
import Derived.Test.YtehegllgaiehfaaAs
import Derived.Deep.MidRow
import Derived.Deep.RegionHeld3
namespace Go.Proofs.Ytehegllgaiehfaa
open Go.RowKit

theorem range_kept {W W' : World} {b o : Nat} {cs : List Value} (h : W.rangeAt b o cs) (hk : Kept Non W W') : W'.rangeAt b o cs := fun j v hj => (World.cell?_of_block (hk.block b (World.block_lt_of_cell? _ _ (h j v hj)) (fun h => h))).trans (h j v hj)
set_option maxRecDepth 100000 in
set_option maxHeartbeats 1000000 in
theorem FnAsked_walk (w : World) (vax : Value) (ax : List Ac) (hax : SlA w vax ax) (lax : ax.length ≤ 1599289640400) (wax : ActsW ax) (_dax : CapOk vax) (bax : ax.length ≤ 1048576) (x : Int) (_rx : -2147483648 ≤ x ∧ x ≤ 2147483647) :
    Calls Try.prog 7 #[vax, .int .i32 x] w fun e w' => e = .returned (.bool true) ∧ Kept Non w w' := by
  have HS := hid0 (And.intro hax wax)
  have hgv := hist_good wax ax.length (Nat.le_refl _)
  have hlen := (hist_len ax ax.length (Nat.le_refl _)).1
  rw [List.take_length] at hgv hlen
  have hm := fun W h2 h3 => Asked_any W vax ax x h2 lax wax h3 bax
  have hh := fun W h2 => History_any W vax ax h2 lax wax
  obtain ⟨⟨vs, fs⟩, hv⟩ : ∃ H, H = hist ax := ⟨_, rfl⟩
  rw [← hv] at hgv hlen hm hh
  simp only at hgv hlen hm
  have HGV := hid0 hgv
  have HMH := hid0 (And.intro hm hh)
  have hn : vs.length ≤ 1048577 := by omega
  clear hax wax hgv hlen hv hm hh
  go_enter Try.func7, Try.ntmps7
  go_wp2_with fail
  refine (played_any _ _ ax HS.out.1 lax HS.out.2).mono ?_
  rintro e W1 ⟨b, rfl, g1, hb⟩
  have HG := hid0 (And.intro g1 hb)
  clear g1 hb
  cases b with
  | false =>
    go_wp2
    go_ret
    exact ⟨rfl, HG.out.1⟩
  | true =>
    have HPL := hid0 (HG.out.2 rfl)
    go_wp2_with fail
    refine (HMH.out.2 _ (HS.out.1.ext HG.out.1)).mono ?_
    rintro e W2 ⟨o2, t2, vals2, rfl, h2⟩
    simp only at h2
    obtain ⟨⟨oa, oc, rfl⟩, ta, tc, rfl⟩ := h2.form (fun s => rfl)
    have H2 := hid0 (And.intro h2 (HG.out.1.trans h2.kept))
    clear h2
    go_wp2_with fail
    refine (HMH.out.1 _ (HS.out.1.ext H2.out.2) HPL.out).mono ?_
    rintro e W3 ⟨o3, rfl, s3, g3⟩
    obtain ⟨qa, qc, rfl⟩ : ∃ a c, o3 = .slice a vs.length c := by
      obtain ⟨a, c, e⟩ := (Own.sl (fun q => (anc_enc q).1) s3).form
      exact ⟨a, c, by rw [e, List.length_map]⟩
    have H3 := hid0 (And.intro (Own.sl (fun q => (anc_enc q).1) s3) (And.intro (H2.out.1.ext g3) (H2.out.2.trans g3)))
    have hb1 : ((vs.length : Int) != (vs.length : Int)) = false := by simp
    clear s3 g3 HMH
    go_wp2
    go_loopg [28] (vs.length) (fun n i wr => ∃ k : Nat, k + n = vs.length ∧ i = .int .i64 k ∧ Kept Non W3 wr)
    case atStart => exact ⟨0, by simp, rfl, Kept.refl _ _⟩
    case round =>
      obtain ⟨k, hk, rfl, hK⟩ := hrel
      have HK := hid0 hK
      by_cases hlt : k < vs.length
      · obtain ⟨g5, off5, s5, rfl, hg5, hc5, hp5⟩ := (H3.out.2.1.ext hK).get (fun s => rfl) k hlt
        obtain ⟨x5, y5, z5⟩ := s5
        have v5 := hc5 _ rfl
        simp only [shv] at v5
        have e5 : vs.getD k [] = vs[k] := by rw [List.getD_eq_getElem?_getD, List.getElem?_eq_getElem hlt]; rfl
        rw [e5] at hp5
        have HP := hid0 hp5
        have HLE : Hid (vs[k].length ≤ 4294967296) := (HGV.out _ (List.getElem_mem hlt)).len
        have hla : k < (vs.map (ask x)).length := by simpa using hlt
        obtain ⟨b6, off6, rfl, hb6, hcc⟩ := H3.out.1.cells hK k hla
        have hel : (vs.map (ask x))[k] = ask x vs[k] := by simp
        rw [hel] at hcc
        have hav : anV (ask x vs[k]) = .agg (anc (ask x vs[k])).toArray := rfl
        have hq := fun W => neq_an (ask x vs[k]) W
        rw [hav] at hq
        obtain ⟨cs, hcs⟩ : ∃ cs, cs = anc (ask x vs[k]) := ⟨_, rfl⟩
        have hcl : cs.length = 24 := by rw [hcs]; exact (anc_enc _).1
        rw [← hcs] at hcc hq hav
        have HAV := hid0 hav
        have HCC : Hid (wr.rangeAt b6 (off6 + k * 24) cs) := hcc
        have HIN : Hid ((Try.prog.info? 52).map (·.size) = some cs.length) := by
          show _ = _
          rw [hcl]; kernel_rfl
        have hi0 : (0 : Int) ≤ (k : Int) := Int.natCast_nonneg _
        have hi1 : (k : Int) < (vs.length : Int) := by omega
        clear hK hc5 hp5 e5 hel hla hcc hav hcs hcl
        go_wp2_with fail
        refine wp_region_held_drew (S := fun W => W.rangeAt b6 (off6 + k * 24) cs ∧ Kept Non wr W) (by kernel_rfl) ⟨range_kept HCC.out (Kept.refl _ _).drew, (Kept.refl _ _).drew⟩ (fun hHeld => ?_)
        refine wpAnyH_take (i := 0) (v := ?v0) (by simp only [List.getElem?_toArray, List.getElem?_cons_zero]; rfl) (by kernel_rfl) (by kernel_rfl) (by kernel_rfl) (by exact fun _ _ _ h => h) (Or.inl ⟨by rfl, ?hy0⟩) (by assumption) ?rest0
        case hy0 => intro w hSw; (try dsimp only at hSw); go_simp; try (with_reducible rfl)
        case rest0 =>
        try simp only [Act.put, List.setIfInBounds_toArray, List.set_cons_zero, List.set_cons_succ]
        refine wpAnyH_take (i := 1) (v := ?v1) (by simp only [List.getElem?_toArray, List.getElem?_cons_succ, List.getElem?_cons_zero]; rfl) (by kernel_rfl) (by kernel_rfl) (by kernel_rfl) (by exact fun _ _ _ h => h) (Or.inl ⟨by rfl, ?hy1⟩) (by assumption) ?rest1
        case hy1 => intro w hSw; (try dsimp only at hSw); go_simp; try (with_reducible rfl)
        case rest1 =>
        try simp only [Act.put, List.setIfInBounds_toArray, List.set_cons_zero, List.set_cons_succ]
        refine wpAnyH_take (i := 2) (v := ?v2) (by simp only [List.getElem?_toArray, List.getElem?_cons_succ, List.getElem?_cons_zero]; rfl) (by kernel_rfl) (by kernel_rfl) (by kernel_rfl) (by exact fun _ _ _ h => h) (Or.inl ⟨by rfl, ?hy2⟩) (by assumption) ?rest2
        case hy2 => intro w hSw; (try dsimp only at hSw); go_simp; try (with_reducible rfl)
        case rest2 =>
        try simp only [Act.put, List.setIfInBounds_toArray, List.set_cons_zero, List.set_cons_succ]
        refine wpAnyH_take (i := 3) (v := .agg cs.toArray) (by simp only [List.getElem?_toArray, List.getElem?_cons_succ, List.getElem?_cons_zero]; rfl) (by kernel_rfl) (by kernel_rfl) (by kernel_rfl) (by exact fun _ _ _ h => h) (yieldsIf_load_mid (by rfl) _ _ rfl b6 (off6 + k * 24) rfl cs _ (fun _ h => h.1) Try.underlying52 rfl HIN.out) (by assumption) ?_
        try simp only [Act.put, List.setIfInBounds_toArray, List.set_cons_zero, List.set_cons_succ]
        refine wpAnyH_take (i := 4) (v := ?v4) (by simp only [List.getElem?_toArray, List.getElem?_cons_succ, List.getElem?_cons_zero]; rfl) (by kernel_rfl) (by kernel_rfl) (by kernel_rfl) (by exact fun _ _ _ h => h) (Or.inl ⟨by rfl, ?hy4⟩) (by assumption) ?rest4
        case hy4 => intro w hSw; (try dsimp only at hSw); go_simp; try (with_reducible rfl)
        case rest4 =>
        try simp only [Act.put, List.setIfInBounds_toArray, List.set_cons_zero, List.set_cons_succ]
        refine wpAnyH_take (i := 5) (v := ?v5) (by simp only [List.getElem?_toArray, List.getElem?_cons_succ, List.getElem?_cons_zero]; rfl) (by kernel_rfl) (by kernel_rfl) (by kernel_rfl) (by exact fun _ _ _ h => h) (Or.inl ⟨by rfl, ?hy5⟩) (by assumption) ?rest5
        case hy5 => intro w hSw; (try dsimp only at hSw); go_simp; try (with_reducible rfl)
        case rest5 =>
        try simp only [Act.put, List.setIfInBounds_toArray, List.set_cons_zero, List.set_cons_succ]
        refine wpAnyH_ready (rs := [6]) (by kernel_rfl) (by simp) ?_
        refine AllReadyH.cons (by simp only [List.getElem?_toArray, List.getElem?_cons_succ, List.getElem?_cons_zero]; rfl) (fun K hK => ?_) AllReadyH.nil
        go_simp
        go_at_call 27
        refine (Ask_any _ _ vs[k] x (HP.out.sl.ext (Kept.refl _ _).drew) (by have := HLE.out; omega)).mono ?_
        rintro e W5 ⟨rfl, gS⟩
        rw [HAV.out]
        go_wp2_with fail
        refine hK.out _ _ ?_ (fun hHeld => ?_)
        · exact ⟨range_kept HCC.out ((Kept.refl _ _).drew.trans gS), (Kept.refl _ _).drew.trans gS⟩
        clear hK K
        try simp only [Act.put, List.setIfInBounds_toArray, List.set_cons_zero, List.set_cons_succ]
        refine wpAnyH_take (i := 7) (v := ?v7) (by simp only [List.getElem?_toArray, List.getElem?_cons_succ, List.getElem?_cons_zero]; rfl) (by kernel_rfl) (by kernel_rfl) (by kernel_rfl) (by exact fun _ _ _ h => h) (Or.inl ⟨by rfl, ?hy7⟩) (by assumption) ?rest7
        case hy7 => intro w hSw; (try dsimp only at hSw); go_simp; try (with_reducible rfl)
        case rest7 =>
        try simp only [Act.put, List.setIfInBounds_toArray, List.set_cons_zero, List.set_cons_succ]
        refine wpAnyH_done (by kernel_rfl) ?_ _
        have H5 := hid0 ((HK.out.drew).trans gS)
        clear gS
        go_wp2
        go_roundg (gk - 1)
        case measure => omega
        case rel => exact ⟨k + 1, by omega, by go_num, H5.out⟩
      · clear hK
        go_wp2
        go_ret
        exact ⟨rfl, H3.out.2.2.trans HK.out⟩
set_option maxRecDepth 100000 in
set_option maxHeartbeats 1000000 in
theorem FnAskedVersions_walk (w : World) (vax : Value) (ax : List Ac) (hax : SlA w vax ax) (lax : ax.length ≤ 1599289640400) (wax : ActsW ax) (dax : CapOk vax) (bax : ax.length ≤ 1048576) (x : Int) (rx : -2147483648 ≤ x ∧ x ≤ 2147483647) :
    Calls Try.prog 8 #[vax, .int .i32 x] w fun e w' => e = .returned (.bool true) ∧ Kept Non w w' := by
  have HS := hid0 (And.intro hax (And.intro wax dax))
  have HA := hid0 (fun (W : World) (h : SlA W vax ax) => FnAsked_walk W vax ax h lax wax dax bax x rx)
  clear hax wax dax
  go_enter Try.func8, Try.ntmps8
  go_wp2_with fail
  refine (told_any _ _ ax HS.out.1 lax).mono ?_
  rintro e W1 ⟨b, rfl, g1⟩
  have HG := hid0 g1
  clear g1
  cases b with
  | false =>
    go_wp2
    go_ret
    exact ⟨rfl, HG.out⟩
  | true =>
    go_wp2_with fail
    refine (HA.out _ (HS.out.1.ext HG.out)).mono ?_
    rintro e W2 ⟨rfl, g2⟩
    have H2 := hid0 (HG.out.trans g2)
    clear g2
    go_wp2
    go_ret
    exact ⟨rfl, H2.out⟩

end Go.Proofs.Ytehegllgaiehfaa
