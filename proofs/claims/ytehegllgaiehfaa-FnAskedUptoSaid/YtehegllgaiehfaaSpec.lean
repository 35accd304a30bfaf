/- spec.Intersection, spec.Difference, spec.Union and laws.fresh. -/
import Derived.Test.YtehegllgaiehfaaMix
import Derived.Test.YtehegllgaiehfaaFP
namespace Go.Proofs.Ytehegllgaiehfaa
open Go.RowKit

theorem fmap_snoc (g : Int → Int → Option Int) (xs : Ps) (k : Nat) (h : k < xs.length) : fmap g (xs.take (k + 1)) = fmap g (xs.take k) ++ (match g xs[k].1 xs[k].2 with | none => [] | some n => [(xs[k].1, n)]) := by
  rw [List.take_succ_eq_append_getElem h, fmap, List.filterMap_append]
  congr 1
  cases hg : g xs[k].1 xs[k].2 <;> simp [hg]
theorem fdAt_look (x : Int) (ys : Ps) : fdAt x (findP x ys) = match look x ys with | none => (x, 0, false) | some z => (x, z, true) := by
  rw [find_look]
  cases look x ys <;> rfl
theorem mixV_some {m : Mx} {d e c : Int} (h : mixV m d e = some c) : mixN m d e = c := by
  unfold mixV at h
  split at h
  · cases h
  · exact Option.some.inj h
theorem gSI_none {op : Fun2} {ys : Ps} {k d : Int} (h : look k ys = none) : gSI op ys k d = none := by rw [gSI, h]; rfl
theorem gSI_some {op : Fun2} {ys : Ps} {k d z : Int} {r : Option Int} (h : look k ys = some z) (h' : op d z = r) : gSI op ys k d = r := by rw [gSI, h]; exact h'
theorem gSD_none {op : Fun2} {ys : Ps} {k d : Int} (h : look k ys = none) : gSD op ys k d = some d := by rw [gSD, h]
theorem gSD_some {op : Fun2} {ys : Ps} {k d z : Int} {r : Option Int} (h : look k ys = some z) (h' : op d z = r) : gSD op ys k d = r := by rw [gSD, h]; exact h'
structure MixC (w : World) (cb : Nat) (m : Mx) : Prop where
  c0 : w.cell? ⟨cb, 0, none⟩ = some (.bool m.no)
  c1 : w.cell? ⟨cb, 1, none⟩ = some (.int .i64 m.a)
  c2 : w.cell? ⟨cb, 2, none⟩ = some (.int .i64 m.b)
  c3 : w.cell? ⟨cb, 3, none⟩ = some (.int .i64 m.c)
  c4 : w.cell? ⟨cb, 4, none⟩ = some (.int .i64 m.md)
  c5 : w.cell? ⟨cb, 5, none⟩ = some (.int .i64 m.rs)
theorem MixAt.cells {w : World} {cb : Nat} {m : Mx} (h : MixAt w cb m) : MixC w cb m :=
  ⟨by rw [cell_of h.blk]; rfl, by rw [cell_of h.blk]; rfl, by rw [cell_of h.blk]; rfl, by rw [cell_of h.blk]; rfl, by rw [cell_of h.blk]; rfl, by rw [cell_of h.blk]; rfl⟩
/-- a pair's variable -/
theorem pair_cells {w w' : World} {x d : Int} (hk : Kept Non (w.alloc (.cells #[.int .i32 x, .int .i64 d] 27)) w') : w'.cell? ⟨w.heap.size, 0, none⟩ = some (.int .i32 x) ∧ w'.cell? ⟨w.heap.size, 1, none⟩ = some (.int .i64 d) ∧ w.heap.size < w'.heap.size := by
  have h1 : w'.heap[w.heap.size]? = some (.cells #[.int .i32 x, .int .i64 d] 27) := (hk.block _ (by simp) (fun h => h)).trans (alloc_new _ _)
  exact ⟨by rw [cell_of h1]; rfl, by rw [cell_of h1]; rfl, block_lt h1⟩

set_option maxRecDepth 100000 in
set_option maxHeartbeats 1000000 in
theorem Intersection_any (w : World) (v u : Value) (xs ys : Ps) (m : Mx) (h : SlP w v xs) (h' : SlP w u ys) (hl : xs.length ≤ 4294967296) (hl' : ys.length ≤ 4294967296) :
    Calls Try.prog 42 #[v, u, mxv m] w (NewP w (interS (mixV m) xs ys)) := by
  obtain ⟨a, cap, rfl⟩ := h.form
  have HS := hid0 (And.intro h h')
  have hl0 : xs.length ≤ 4294967296 := hl
  obtain ⟨no, ma, mb, mc, md, rs⟩ := m
  obtain ⟨m, hm⟩ : ∃ m : Mx, m = ⟨no, ma, mb, mc, md, rs⟩ := ⟨_, rfl⟩
  have hmv : mxv ⟨no, ma, mb, mc, md, rs⟩ = .agg #[.bool no, .int .i64 ma, .int .i64 mb, .int .i64 mc, .int .i64 md, .int .i64 rs] := rfl
  rw [hmv, ← hm]
  have HM := hid0 hm
  clear h h' hm hmv hl
  go_enter Try.func42, Try.ntmps42
  go_wp2
  go_loopg [7, 15] (xs.length) (fun n o i wr => ∃ k : Nat, k + n = xs.length ∧ i = .int .i64 k ∧ Kept Non w wr ∧ MixAt wr w.heap.size m ∧ OwnP (w.heap.size + 1) wr o (fmap (gSI (mixV m) ys) (xs.take k)))
  case atStart => exact ⟨0, by simp, rfl, (Kept.refl _ _).alloc _, by rw [HM.out]; exact ⟨alloc_new _ _⟩, Own.nil _⟩
  case round =>
    obtain ⟨k, hk, rfl, hK, hM, hO⟩ := hrel
    have HK := hid0 (And.intro hK (And.intro hM hO))
    have hb : w.heap.size < wr.heap.size := block_lt hM.blk
    clear hM hO
    by_cases hlt : k < xs.length
    · obtain ⟨b, off, rfl, _, c0, c1⟩ := HS.out.1.pair hK k hlt
      clear hK
      go_wp2_with fail
      refine (At_any _ _ ys xs[k].1 (HS.out.2.ext (HK.out.1.alloc _)) (by omega)).mono ?_
      rintro e W1 ⟨rfl, gA⟩
      clear c0 c1
      obtain ⟨p0, p1, p2⟩ := pair_cells gA
      have pn : wr.heap.size ≠ W1.heap.size := Nat.ne_of_lt p2
      have mn : w.heap.size ≠ W1.heap.size := by omega
      have hmm : ∀ o, MixC (W1.alloc o) w.heap.size m := fun o => (HK.out.2.1.ext ((((Kept.refl _ _).alloc _).trans gA).alloc o)).cells
      rw [HM.out] at hmm
      have m0 := fun o => (hmm o).c0
      have m1 := fun o => (hmm o).c1
      have m2 := fun o => (hmm o).c2
      have m3 := fun o => (hmm o).c3
      have m4 := fun o => (hmm o).c4
      have m5 := fun o => (hmm o).c5
      simp only at m0 m1 m2 m3 m4 m5
      clear hmm
      have HA := hid0 (((Kept.refl _ wr).alloc _).trans gA)
      clear gA
      rw [fdAt_look]
      cases hlk : look xs[k].1 ys with
      | none =>
        have HL := hid0 hlk
        clear hlk p0 p1 m0 m1 m2 m3 m4 m5
        simp only [fv]
        go_wp2
        go_roundg (gk - 1)
        case measure => omega
        case rel => exact ⟨k + 1, by omega, by go_num, HK.out.1.trans (HA.out.alloc _), HK.out.2.1.ext (HA.out.alloc _), by rw [fmap_snoc _ _ _ hlt, gSI_none HL.out, List.append_nil]; exact HK.out.2.2.ext' (HA.out.alloc _)⟩
      | some z =>
        have HL := hid0 hlk
        clear hlk
        simp only [fv]
        go_wp2_with fail
        refine (Mixed_any _ ⟨no, ma, mb, mc, md, rs⟩ xs[k].2 z).mono ?_
        rintro e W2 ⟨rfl, gM⟩
        have HB := hid0 ((HA.out.alloc _).trans gM)
        have q0 := (World.cell?_of_block (a := ⟨wr.heap.size, 0, none⟩) ((((Kept.refl Non W1).alloc _).trans gM).block _ p2 (fun h => h))).trans p0
        have q1 := (World.cell?_of_block (a := ⟨wr.heap.size, 1, none⟩) ((((Kept.refl Non W1).alloc _).trans gM).block _ p2 (fun h => h))).trans p1
        have q2 : wr.heap.size < W2.heap.size := Nat.lt_of_lt_of_le p2 (((Kept.refl Non W1).alloc _).trans gM).size
        have q3 : wr.heap.size ≠ W2.heap.size := Nat.ne_of_lt q2
        rw [← HM.out]
        cases hv : mixV m xs[k].2 z with
        | none =>
          have HV := hid0 hv
          generalize mixN m xs[k].2 z = nn
          clear hv p0 p1 m0 m1 m2 m3 m4 m5 q0 q1 gM
          simp only [Option.isSome_none]
          go_wp2
          go_roundg (gk - 1)
          case measure => omega
          case rel => exact ⟨k + 1, by omega, by go_num, HK.out.1.trans (HB.out), HK.out.2.1.ext (HB.out), by rw [fmap_snoc _ _ _ hlt, gSI_some HL.out HV.out, List.append_nil]; exact HK.out.2.2.ext' (HB.out)⟩
        | some c =>
          have HV := hid0 hv
          rw [mixV_some hv]
          clear hv p0 p1 m0 m1 m2 m3 m4 m5 gM
          simp only [Option.isSome_some]
          have HLn : Hid ((fmap (gSI (mixV m) ys) (xs.take k)).length + 1 ≤ 4294967297) := by
            have h1 := fmap_length (gSI (mixV m) ys) (xs.take k)
            have h2 := List.length_take_le k xs
            show _ ≤ _
            omega
          go_wp2_with (at_builtin; refine wpList_app rfl (.tmp 36) (.tmp 41) rfl tyP pc_enc (w.heap.size + 1) _ _ rfl (HK.out.2.2.ext' (HB.out.alloc _)) (W2.heap.size) (xs[k].1, c) rfl (new_cells (cs := pc (xs[k].1, c)) (by simp)) (by have := HLn.out; omega) (by decide) (by simp; omega) ?_)
          intro v' w3 g1 g2
          have HG := hid0 (And.intro g1 g2)
          clear g1 g2
          go_wp2
          go_roundg (gk - 1)
          case measure => omega
          case rel =>
            refine ⟨k + 1, by omega, by go_num, (HK.out.1.trans (HB.out.alloc _)).trans' HG.out.2 (fun i hi hge => by have hge' : w.heap.size + 1 ≤ i := hge; omega), ⟨(HG.out.2.block _ (by simp; omega) (fun hge => by have hge' : w.heap.size + 1 ≤ w.heap.size := hge; omega)).trans (HK.out.2.1.ext (HB.out.alloc _)).blk⟩, ?_⟩
            rw [fmap_snoc _ _ _ hlt, gSI_some HL.out HV.out]
            exact HG.out.1
    · have HE : Hid (xs.take k = xs) := List.take_of_length_le (by omega)
      clear hK
      go_wp2
      go_ret
      exact ⟨_, rfl, by have := HK.out.2.2; rw [HE.out] at this; exact this.mono (Nat.le_succ _), HK.out.1⟩

theorem opOf_none {m : Mx} (h : m.no = true) : (opOf m).getD (fun _ _ => none) = fun _ _ => none := by rw [opOf, if_pos h]; rfl
theorem opOf_some {m : Mx} (h : m.no = false) : (opOf m).getD (fun _ _ => none) = mixV m := by rw [opOf, if_neg (by rw [h]; simp)]; rfl
set_option maxRecDepth 100000 in
set_option maxHeartbeats 1000000 in
theorem Difference_any (w : World) (v u : Value) (xs ys : Ps) (m : Mx) (h : SlP w v xs) (h' : SlP w u ys) (hl : xs.length ≤ 4294967296) (hl' : ys.length ≤ 4294967296) :
    Calls Try.prog 43 #[v, u, mxv m] w (NewP w (diffS ((opOf m).getD fun _ _ => none) xs ys)) := by
  obtain ⟨a, cap, rfl⟩ := h.form
  have HS := hid0 (And.intro h h')
  have hl0 : xs.length ≤ 4294967296 := hl
  obtain ⟨no, ma, mb, mc, md, rs⟩ := m
  obtain ⟨m, hm⟩ : ∃ m : Mx, m = ⟨no, ma, mb, mc, md, rs⟩ := ⟨_, rfl⟩
  have hmv : mxv ⟨no, ma, mb, mc, md, rs⟩ = .agg #[.bool no, .int .i64 ma, .int .i64 mb, .int .i64 mc, .int .i64 md, .int .i64 rs] := rfl
  rw [hmv, ← hm]
  have HM := hid0 hm
  clear h h' hm hmv hl
  go_enter Try.func43, Try.ntmps43
  go_wp2
  go_loopg [7, 15] (xs.length) (fun n o i wr => ∃ k : Nat, k + n = xs.length ∧ i = .int .i64 k ∧ Kept Non w wr ∧ MixAt wr w.heap.size m ∧ OwnP (w.heap.size + 1) wr o (fmap (gSD ((opOf m).getD fun _ _ => none) ys) (xs.take k)))
  case atStart => exact ⟨0, by simp, rfl, (Kept.refl _ _).alloc _, by rw [HM.out]; exact ⟨alloc_new _ _⟩, Own.nil _⟩
  case round =>
    obtain ⟨k, hk, rfl, hK, hM, hO⟩ := hrel
    have HK := hid0 (And.intro hK (And.intro hM hO))
    have hb : w.heap.size < wr.heap.size := block_lt hM.blk
    clear hM hO
    by_cases hlt : k < xs.length
    · obtain ⟨b, off, rfl, _, c0, c1⟩ := HS.out.1.pair hK k hlt
      clear hK
      go_wp2_with fail
      refine (At_any _ _ ys xs[k].1 (HS.out.2.ext (HK.out.1.alloc _)) (by omega)).mono ?_
      rintro e W1 ⟨rfl, gA⟩
      clear c0 c1
      obtain ⟨p0, p1, p2⟩ := pair_cells gA
      have pn : wr.heap.size ≠ W1.heap.size := Nat.ne_of_lt p2
      have mn : w.heap.size ≠ W1.heap.size := by omega
      have hmm : ∀ o, MixC (W1.alloc o) w.heap.size m := fun o => (HK.out.2.1.ext ((((Kept.refl _ _).alloc _).trans gA).alloc o)).cells
      rw [HM.out] at hmm
      have m0 := fun o => (hmm o).c0
      have m1 := fun o => (hmm o).c1
      have m2 := fun o => (hmm o).c2
      have m3 := fun o => (hmm o).c3
      have m4 := fun o => (hmm o).c4
      have m5 := fun o => (hmm o).c5
      simp only at m0 m1 m2 m3 m4 m5
      clear hmm
      have HA := hid0 (((Kept.refl _ wr).alloc _).trans gA)
      clear gA
      rw [fdAt_look]
      cases hlk : look xs[k].1 ys with
      | none =>
        have HL := hid0 hlk
        clear hlk m0 m1 m2 m3 m4 m5
        simp only [fv]
        have HLn : Hid ((fmap (gSD ((opOf m).getD fun _ _ => none) ys) (xs.take k)).length + 1 ≤ 4294967297) := by
          have h1 := fmap_length (gSD ((opOf m).getD fun _ _ => none) ys) (xs.take k)
          have h2 := List.length_take_le k xs
          show _ ≤ _
          omega
        go_wp2_with (at_builtin; refine wpList_app rfl (.tmp 26) (.tmp 28) rfl tyP pc_enc (w.heap.size + 1) _ _ rfl (HK.out.2.2.ext' ((HA.out.alloc _).alloc _)) (W1.heap.size + 1) (xs[k]) rfl (new_cells (cs := pc (xs[k])) (by simp)) (by have := HLn.out; omega) (by decide) (by simp; omega) ?_)
        intro v' w3 g1 g2
        have HG := hid0 (And.intro g1 g2)
        clear g1 g2
        go_wp2
        go_roundg (gk - 1)
        case measure => omega
        case rel =>
          refine ⟨k + 1, by omega, by go_num, (HK.out.1.trans ((HA.out.alloc _).alloc _)).trans' HG.out.2 (fun i hi hge => by have hge' : w.heap.size + 1 ≤ i := hge; omega), ⟨(HG.out.2.block _ (by simp; omega) (fun hge => by have hge' : w.heap.size + 1 ≤ w.heap.size := hge; omega)).trans (HK.out.2.1.ext ((HA.out.alloc _).alloc _)).blk⟩, ?_⟩
          rw [fmap_snoc _ _ _ hlt, gSD_none HL.out]
          exact HG.out.1
      | some z =>
        have HL := hid0 hlk
        clear hlk
        simp only [fv]
        go_wp2_with fail
        refine (Mixed_any _ ⟨no, ma, mb, mc, md, rs⟩ xs[k].2 z).mono ?_
        rintro e W2 ⟨rfl, gM⟩
        have HB := hid0 ((HA.out.alloc _).trans gM)
        have q0 := (World.cell?_of_block (a := ⟨wr.heap.size, 0, none⟩) ((((Kept.refl Non W1).alloc _).trans gM).block _ p2 (fun h => h))).trans p0
        have q1 := (World.cell?_of_block (a := ⟨wr.heap.size, 1, none⟩) ((((Kept.refl Non W1).alloc _).trans gM).block _ p2 (fun h => h))).trans p1
        have q2 : wr.heap.size < W2.heap.size := Nat.lt_of_lt_of_le p2 (((Kept.refl Non W1).alloc _).trans gM).size
        have q3 : wr.heap.size ≠ W2.heap.size := Nat.ne_of_lt q2
        rw [← HM.out]
        have mk2 := gM.block w.heap.size (by simp; omega) (fun h => h)
        have r0 := (World.cell?_of_block (a := ⟨w.heap.size, 0, none⟩) mk2).trans (m0 (.cells #[.int .i32 xs[k].1, .int .i64 z, .bool true] 31))
        cases hv : mixV m xs[k].2 z with
        | none =>
          have HV := hid0 hv
          generalize mixN m xs[k].2 z = nn
          have why : ((opOf m).getD fun _ _ => none) xs[k].2 z = none := by
            cases hno : m.no with
            | true => rw [opOf_none hno]
            | false => rw [opOf_some hno, HV.out]
          have HW := hid0 why
          clear hv why p0 p1 m0 m1 m2 m3 m4 m5 q0 q1 r0 gM mk2
          simp only [Option.isSome_none]
          go_wp2
          go_roundg (gk - 1)
          case measure => omega
          case rel => exact ⟨k + 1, by omega, by go_num, HK.out.1.trans (HB.out), HK.out.2.1.ext (HB.out), by rw [fmap_snoc _ _ _ hlt, gSD_some HL.out HW.out, List.append_nil]; exact HK.out.2.2.ext' (HB.out)⟩
        | some c =>
          have HV := hid0 hv
          rw [mixV_some hv]
          simp only [Option.isSome_some]
          cases no with
          | true =>
            have HW : Hid (((opOf m).getD fun _ _ => none) xs[k].2 z = none) := by show _ = _; rw [opOf_none (show m.no = true by rw [HM.out])]
            clear hv p0 p1 m0 m1 m2 m3 m4 m5 q0 q1 gM mk2
            go_wp2
            go_roundg (gk - 1)
            case measure => omega
            case rel => exact ⟨k + 1, by omega, by go_num, HK.out.1.trans (HB.out), HK.out.2.1.ext (HB.out), by rw [fmap_snoc _ _ _ hlt, gSD_some HL.out HW.out, List.append_nil]; exact HK.out.2.2.ext' (HB.out)⟩
          | false =>
            have HW : Hid (((opOf m).getD fun _ _ => none) xs[k].2 z = some c) := by show _ = _; rw [opOf_some (show m.no = false by rw [HM.out])]; exact HV.out
            clear hv p0 p1 m0 m1 m2 m3 m4 m5 gM mk2
            have HLn : Hid ((fmap (gSD ((opOf m).getD fun _ _ => none) ys) (xs.take k)).length + 1 ≤ 4294967297) := by
              have h1 := fmap_length (gSD ((opOf m).getD fun _ _ => none) ys) (xs.take k)
              have h2 := List.length_take_le k xs
              show _ ≤ _
              omega
            go_wp2_with (at_builtin; refine wpList_app rfl (.tmp 45) (.tmp 50) rfl tyP pc_enc (w.heap.size + 1) _ _ rfl (HK.out.2.2.ext' (HB.out.alloc _)) (W2.heap.size) (xs[k].1, c) rfl (new_cells (cs := pc (xs[k].1, c)) (by simp)) (by have := HLn.out; omega) (by decide) (by simp; omega) ?_)
            intro v' w3 g1 g2
            have HG := hid0 (And.intro g1 g2)
            clear g1 g2
            go_wp2
            go_roundg (gk - 1)
            case measure => omega
            case rel =>
              refine ⟨k + 1, by omega, by go_num, (HK.out.1.trans (HB.out.alloc _)).trans' HG.out.2 (fun i hi hge => by have hge' : w.heap.size + 1 ≤ i := hge; omega), ⟨(HG.out.2.block _ (by simp; omega) (fun hge => by have hge' : w.heap.size + 1 ≤ w.heap.size := hge; omega)).trans (HK.out.2.1.ext (HB.out.alloc _)).blk⟩, ?_⟩
              rw [fmap_snoc _ _ _ hlt, gSD_some HL.out HW.out]
              exact HG.out.1
    · have HE : Hid (xs.take k = xs) := List.take_of_length_le (by omega)
      clear hK
      go_wp2
      go_ret
      exact ⟨_, rfl, by have := HK.out.2.2; rw [HE.out] at this; exact this.mono (Nat.le_succ _), HK.out.1⟩

/-- how the model puts a set together -/
def putAll (ps s : Ps) : Ps := ps.foldl (fun s p => put p.1 p.2 s) s
theorem putAll_take (ps s : Ps) (k : Nat) (h : k < ps.length) : putAll (ps.take (k + 1)) s = put ps[k].1 ps[k].2 (putAll (ps.take k) s) := by
  rw [List.take_succ_eq_append_getElem h, putAll, List.foldl_append]; rfl
theorem unionS_putAll (op : Fun2) (xs ys : Ps) : unionS op xs ys = putAll (interS op xs ys) (putAll (ys.filter fun a => (look a.1 xs).isNone) (putAll (xs.filter fun a => (look a.1 ys).isNone) [])) := by
  rw [unionS, treeP, List.foldl_append, List.foldl_append]; rfl
theorem putAll_filter (q : Int × Int → Bool) (ps s : Ps) (k : Nat) (h : k < ps.length) : putAll ((ps.take (k + 1)).filter q) s = if q ps[k] then put ps[k].1 ps[k].2 (putAll ((ps.take k).filter q) s) else putAll ((ps.take k).filter q) s := by
  rw [filter_take h]
  split
  · rw [putAll, List.foldl_append]; rfl
  · rw [List.append_nil]
theorem putAll_up {ps s : Ps} (h : Up s) : Up (putAll ps s) := up_foldl_put ps h
theorem putAll_wide {ps s : Ps} (h : KeysW ps) (hs : KeysW s) : KeysW (putAll ps s) := by
  induction ps generalizing s with
  | nil => exact hs
  | cons a ps ih =>
    refine ih (s := put a.1 a.2 s) (fun p hp => h p (List.mem_cons_of_mem _ hp)) (fun p hp => ?_)
    rcases put_mem hp with rfl | hp
    · exact h a (List.mem_cons_self ..)
    · exact hs p hp
theorem up_len {xs : Ps} (h : Up xs) (hw : KeysW xs) : xs.length ≤ 4294967296 := wide_length h hw
theorem KeysW.sub {xs ys : Ps} (h : KeysW xs) (hs : ys.Sublist xs) : KeysW ys := fun p hp => h p (hs.subset hp)
theorem KeysW.fmap {xs : Ps} (h : KeysW xs) (g : Int → Int → Option Int) : KeysW (fmap g xs) := fun p hp => by
  obtain ⟨b, hb, e, _⟩ := fmap_key hp
  rw [← e]; exact h b hb
theorem KeysW.nil : KeysW [] := fun _ h => by cases h

set_option maxRecDepth 100000 in
set_option maxHeartbeats 2000000 in
theorem Union_any (w : World) (v u : Value) (xs ys : Ps) (m : Mx) (h : SlP w v xs) (h' : SlP w u ys) (hwx : KeysW xs) (hwy : KeysW ys) (hl : xs.length ≤ 4294967296) (hl' : ys.length ≤ 4294967296) :
    Calls Try.prog 41 #[v, u, mxv m] w (NewP w (unionS (mixV m) xs ys)) := by
  rw [unionS_putAll]
  obtain ⟨a', cap', rfl⟩ := h'.form
  obtain ⟨a, cap, rfl⟩ := h.form
  have HW := hid0 (And.intro hwx hwy)
  have HW0 := hid0 KeysW.nil
  have hfd := field2_fd
  clear hwx hwy
  have HS := hid0 (And.intro h h')
  have hl0 : xs.length ≤ 4294967296 := hl
  obtain ⟨no, ma, mb, mc, md, rs⟩ := m
  obtain ⟨m, hm⟩ : ∃ m : Mx, m = ⟨no, ma, mb, mc, md, rs⟩ := ⟨_, rfl⟩
  have hmv : mxv ⟨no, ma, mb, mc, md, rs⟩ = .agg #[.bool no, .int .i64 ma, .int .i64 mb, .int .i64 mc, .int .i64 md, .int .i64 rs] := rfl
  rw [hmv, ← hm]
  have HM := hid0 hm
  clear h h' hm hmv hl
  obtain ⟨s1, hs1⟩ : ∃ s1, s1 = putAll (xs.filter fun a => (look a.1 ys).isNone) [] := ⟨_, rfl⟩
  rw [← hs1]
  obtain ⟨s2, hs2⟩ : ∃ s2, s2 = putAll (ys.filter fun a => (look a.1 xs).isNone) s1 := ⟨_, rfl⟩
  rw [← hs2]
  obtain ⟨zs, hzs⟩ : ∃ zs, zs = interS (mixV m) xs ys := ⟨_, rfl⟩
  rw [← hzs]
  have HD := hid0 (And.intro hs1 (And.intro hs2 hzs))
  clear hs1 hs2 hzs
  go_enter Try.func41, Try.ntmps41
  go_wp2
  go_loopg [7, 16] (xs.length) (fun n o i wr => ∃ k : Nat, k + n = xs.length ∧ i = .int .i64 k ∧ Kept Non w wr ∧ MixAt wr w.heap.size m ∧ OwnP (w.heap.size + 1) wr o (putAll ((xs.take k).filter fun a => (look a.1 ys).isNone) ([])))
  case atStart => exact ⟨0, by simp, rfl, (Kept.refl _ _).alloc _, by rw [HM.out]; exact ⟨alloc_new _ _⟩, Own.nil _⟩
  case round =>
    obtain ⟨k, hk, rfl, hK, hM, hO⟩ := hrel
    have HK := hid0 (And.intro hK (And.intro hM hO))
    have hb : w.heap.size < wr.heap.size := block_lt hM.blk
    clear hM hO
    by_cases hlt : k < xs.length
    · obtain ⟨b, off, rfl, _, c0, c1⟩ := HS.out.1.pair hK k hlt
      clear hK
      go_wp2_with fail
      refine (At_any _ _ ys xs[k].1 (HS.out.2.ext (HK.out.1.alloc _)) (by omega)).mono ?_
      rintro e W1 ⟨rfl, gA⟩
      clear c0 c1
      obtain ⟨p0, p1, p2⟩ := pair_cells gA
      have HA := hid0 (((Kept.refl _ wr).alloc _).trans gA)
      clear gA
      rw [fdAt_look]
      cases hlk : look xs[k].1 ys with
      | some z =>
        have HL := hid0 hlk
        clear hlk p0 p1
        simp only [fv]
        go_wp2
        go_roundg (gk - 1)
        case measure => omega
        case rel => exact ⟨k + 1, by omega, by go_num, HK.out.1.trans HA.out, HK.out.2.1.ext HA.out, by rw [putAll_filter _ _ _ _ hlt, HL.out, if_neg (by simp)]; exact HK.out.2.2.ext' HA.out⟩
      | none =>
        have HL := hid0 hlk
        clear hlk
        simp only [fv]
        go_wp2_with fail
        refine (Put_any _ _ _ xs[k].1 xs[k].2 (OwnP.sl (HK.out.2.2.ext' HA.out)) (up_len (putAll_up Up.nil) (putAll_wide (HW.out.1.sub (List.Sublist.trans List.filter_sublist (List.take_sublist _ _))) HW0.out))).mono ?_
        rintro e W2 ⟨v2, rfl, g1, g2⟩
        have HG := hid0 (And.intro g1 (HA.out.trans g2))
        clear g1 g2 p0 p1
        go_wp2
        go_roundg (gk - 1)
        case measure => omega
        case rel => exact ⟨k + 1, by omega, by go_num, HK.out.1.trans HG.out.2, HK.out.2.1.ext HG.out.2, by rw [putAll_filter _ _ _ _ hlt, HL.out, if_pos (by simp)]; exact HG.out.1.mono (by omega)⟩
    · have HE : Hid (xs.take k = xs) := List.take_of_length_le (by omega)
      have HO : Hid (OwnP (w.heap.size + 1) wr _ _) := HK.out.2.2
      rw [HE.out] at HO
      have HR := hid0 (And.intro HK.out.1 (And.intro HK.out.2.1 HO.out))
      clear HK HE HO hK
      have HU1 := hid0 (putAll_up (ps := xs.filter fun a => (look a.1 ys).isNone) Up.nil)
      have HW1 := hid0 (putAll_wide (ps := xs.filter fun a => (look a.1 ys).isNone) (HW.out.1.sub List.filter_sublist) KeysW.nil)
      rw [← HD.out.1] at HR HU1 HW1
      go_wp2
      go_loopg [7, 35] (ys.length) (fun n o i wr => ∃ k : Nat, k + n = ys.length ∧ i = .int .i64 k ∧ Kept Non w wr ∧ MixAt wr w.heap.size m ∧ OwnP (w.heap.size + 1) wr o (putAll ((ys.take k).filter fun a => (look a.1 xs).isNone) (s1)))
      case atStart => exact ⟨0, by simp, rfl, HR.out.1, HR.out.2.1, HR.out.2.2⟩
      case round =>
        obtain ⟨k, hk, rfl, hK, hM, hO⟩ := hrel
        have HK := hid0 (And.intro hK (And.intro hM hO))
        have hb : w.heap.size < wr.heap.size := block_lt hM.blk
        clear hM hO
        by_cases hlt : k < ys.length
        · obtain ⟨b, off, rfl, _, c0, c1⟩ := HS.out.2.pair hK k hlt
          clear hK
          go_wp2_with fail
          refine (At_any _ _ xs ys[k].1 (HS.out.1.ext (HK.out.1.alloc _)) (by omega)).mono ?_
          rintro e W1 ⟨rfl, gA⟩
          clear c0 c1
          obtain ⟨p0, p1, p2⟩ := pair_cells gA
          have HA := hid0 (((Kept.refl _ wr).alloc _).trans gA)
          clear gA
          rw [fdAt_look]
          cases hlk : look ys[k].1 xs with
          | some z =>
            have HL := hid0 hlk
            clear hlk p0 p1
            simp only [fv]
            go_wp2
            go_roundg (gk - 1)
            case measure => omega
            case rel => exact ⟨k + 1, by omega, by go_num, HK.out.1.trans HA.out, HK.out.2.1.ext HA.out, by rw [putAll_filter _ _ _ _ hlt, HL.out, if_neg (by simp)]; exact HK.out.2.2.ext' HA.out⟩
          | none =>
            have HL := hid0 hlk
            clear hlk
            simp only [fv]
            go_wp2_with fail
            refine (Put_any _ _ _ ys[k].1 ys[k].2 (OwnP.sl (HK.out.2.2.ext' HA.out)) (up_len (putAll_up HU1.out) (putAll_wide (HW.out.2.sub (List.Sublist.trans List.filter_sublist (List.take_sublist _ _))) HW1.out))).mono ?_
            rintro e W2 ⟨v2, rfl, g1, g2⟩
            have HG := hid0 (And.intro g1 (HA.out.trans g2))
            clear g1 g2 p0 p1
            go_wp2
            go_roundg (gk - 1)
            case measure => omega
            case rel => exact ⟨k + 1, by omega, by go_num, HK.out.1.trans HG.out.2, HK.out.2.1.ext HG.out.2, by rw [putAll_filter _ _ _ _ hlt, HL.out, if_pos (by simp)]; exact HG.out.1.mono (by omega)⟩
        · have HE : Hid (ys.take k = ys) := List.take_of_length_le (by omega)
          have HO : Hid (OwnP (w.heap.size + 1) wr _ _) := HK.out.2.2
          rw [HE.out] at HO
          have HR := hid0 (And.intro HK.out.1 (And.intro HK.out.2.1 HO.out))
          clear HK HE HO hK
          have HU2 := hid0 (putAll_up (ps := ys.filter fun a => (look a.1 xs).isNone) HU1.out)
          have HW2 := hid0 (putAll_wide (ps := ys.filter fun a => (look a.1 xs).isNone) (HW.out.2.sub List.filter_sublist) HW1.out)
          rw [← HD.out.2.1] at HR HU2 HW2
          obtain ⟨m0, m1, m2, m3, m4, m5⟩ := HR.out.2.1.cells
          rw [HM.out] at m0 m1 m2 m3 m4 m5
          go_wp2_with fail
          refine (Intersection_any _ _ _ xs ys ⟨no, ma, mb, mc, md, rs⟩ (HS.out.1.ext HR.out.1) (HS.out.2.ext HR.out.1) (by omega) (by omega)).mono ?_
          rintro e W4 ⟨v4, rfl, i1, i2⟩
          rw [← HM.out, ← HD.out.2.2] at i1
          obtain ⟨a4, cap4, rfl⟩ := (OwnP.sl i1).form
          have hl4 : zs.length ≤ 4294967296 := by rw [HD.out.2.2]; exact Nat.le_trans (fmap_length _ _) hl0
          have HW4 := hid0 (HW.out.1.fmap (gSI (mixV m) ys))
          have HI := hid0 (And.intro (OwnP.sl i1) (And.intro (HR.out.1.trans i2) (HR.out.2.2.ext' i2)))
          have hb4 : w.heap.size < W4.heap.size := Nat.lt_of_lt_of_le (block_lt HR.out.2.1.blk) i2.size
          clear i1 i2 m0 m1 m2 m3 m4 m5
          have HW5 : Hid (KeysW zs) := by rw [HD.out.2.2]; exact HW4.out
          clear HW4
          go_wp2
          go_loopg [7, 57] (zs.length) (fun n o i wr => ∃ k : Nat, k + n = zs.length ∧ i = .int .i64 k ∧ Kept Non w wr ∧ Kept Non W4 wr ∧ OwnP (w.heap.size + 1) wr o (putAll (zs.take k) s2))
          case atStart => exact ⟨0, by simp, rfl, HI.out.2.1, Kept.refl _ _, HI.out.2.2⟩
          case round =>
            obtain ⟨k, hk, rfl, hK, hK4, hO⟩ := hrel
            have HK := hid0 (And.intro hK (And.intro hK4 hO))
            have hb : w.heap.size < wr.heap.size := Nat.lt_of_lt_of_le hb4 hK4.size
            clear hO hK
            by_cases hlt : k < zs.length
            · obtain ⟨b, off, rfl, _, c0, c1⟩ := HI.out.1.pair hK4 k hlt
              clear hK4
              go_wp2_with fail
              refine (Put_any _ _ _ zs[k].1 zs[k].2 (OwnP.sl (HK.out.2.2.alloc _)) (up_len (putAll_up HU2.out) (putAll_wide (HW5.out.sub (List.take_sublist _ _)) HW2.out))).mono ?_
              rintro e W5 ⟨v5, rfl, g1, g2⟩
              have HG := hid0 (And.intro g1 (((Kept.refl _ wr).alloc _).trans g2))
              clear g1 g2 c0 c1
              go_wp2
              go_roundg (gk - 1)
              case measure => omega
              case rel => exact ⟨k + 1, by omega, by go_num, HK.out.1.trans HG.out.2, HK.out.2.1.trans HG.out.2, by rw [putAll_take _ _ _ hlt]; exact HG.out.1.mono (by simp; omega)⟩
            · have HE : Hid (zs.take k = zs) := List.take_of_length_le (by omega)
              clear hK4
              go_wp2
              go_ret
              exact ⟨_, rfl, by have := HK.out.2.2; rw [HE.out] at this; exact this.mono (Nat.le_succ _), HK.out.1⟩

/-- whether a function is fresh -/
def freshB (op : Fun2) (xs ys : Ps) : Bool := xs.all fun p => match look p.1 ys with
  | none => true
  | some e => !(op p.2 e == some p.2 && p.2 != e)
theorem freshB_fresh {op : Fun2} {xs ys : Ps} (h : freshB op xs ys = true) : Fresh op xs ys := fun k d e h1 h2 h3 => by
  have := List.all_eq_true.1 h (k, d) (look_mem h1)
  simp only [h2, h3] at this
  simpa using this
set_option maxRecDepth 100000 in
set_option maxHeartbeats 1000000 in
theorem fresh_any (w : World) (v u : Value) (xs ys : Ps) (m : Mx) (h : SlP w v xs) (h' : SlP w u ys) (hl : xs.length ≤ 4294967296) (hl' : ys.length ≤ 4294967296) :
    Calls Try.prog 68 #[v, u, mxv m] w (fun e w' => e = .returned (.bool (freshB (mixV m) xs ys)) ∧ Kept Non w w') := by
  obtain ⟨a, cap, rfl⟩ := h.form
  have HS := hid0 (And.intro h h')
  have hl0 : xs.length ≤ 4294967296 := hl
  obtain ⟨no, ma, mb, mc, md, rs⟩ := m
  obtain ⟨m, hm⟩ : ∃ m : Mx, m = ⟨no, ma, mb, mc, md, rs⟩ := ⟨_, rfl⟩
  have hmv : mxv ⟨no, ma, mb, mc, md, rs⟩ = .agg #[.bool no, .int .i64 ma, .int .i64 mb, .int .i64 mc, .int .i64 md, .int .i64 rs] := rfl
  rw [hmv, ← hm]
  have HM := hid0 hm
  clear h h' hm hmv hl
  go_enter Try.func68, Try.ntmps68
  go_wp2
  go_loopg [14] (xs.length) (fun n i wr => ∃ k : Nat, k + n = xs.length ∧ i = .int .i64 k ∧ Kept Non w wr ∧ MixAt wr w.heap.size m ∧ ∀ p ∈ xs.take k, (match look p.1 ys with | none => true | some e => !(mixV m p.2 e == some p.2 && p.2 != e)) = true)
  case atStart => exact ⟨0, by simp, rfl, (Kept.refl _ _).alloc _, by rw [HM.out]; exact ⟨alloc_new _ _⟩, by simp⟩
  case round =>
    obtain ⟨k, hk, rfl, hK, hM, hO⟩ := hrel
    have HK := hid0 (And.intro hK (And.intro hM hO))
    have hb : w.heap.size < wr.heap.size := block_lt hM.blk
    clear hM hO
    by_cases hlt : k < xs.length
    · obtain ⟨b, off, rfl, _, c0, c1⟩ := HS.out.1.pair hK k hlt
      clear hK
      go_wp2_with fail
      refine (At_any _ _ ys xs[k].1 (HS.out.2.ext (HK.out.1.alloc _)) (by omega)).mono ?_
      rintro e W1 ⟨rfl, gA⟩
      clear c0 c1
      obtain ⟨p0, p1, p2⟩ := pair_cells gA
      have pn : wr.heap.size ≠ W1.heap.size := Nat.ne_of_lt p2
      have mn : w.heap.size ≠ W1.heap.size := by omega
      have hmm : ∀ o, MixC (W1.alloc o) w.heap.size m := fun o => (HK.out.2.1.ext ((((Kept.refl _ _).alloc _).trans gA).alloc o)).cells
      rw [HM.out] at hmm
      have m0 := fun o => (hmm o).c0
      have m1 := fun o => (hmm o).c1
      have m2 := fun o => (hmm o).c2
      have m3 := fun o => (hmm o).c3
      have m4 := fun o => (hmm o).c4
      have m5 := fun o => (hmm o).c5
      simp only at m0 m1 m2 m3 m4 m5
      clear hmm
      have HA := hid0 (((Kept.refl _ wr).alloc _).trans gA)
      clear gA
      rw [fdAt_look]
      cases hlk : look xs[k].1 ys with
      | none =>
        have HL := hid0 hlk
        clear hlk
        simp only [fv]
        go_wp2_with fail
        refine (Mixed_any _ ⟨no, ma, mb, mc, md, rs⟩ xs[k].2 0).mono ?_
        rintro e W2 ⟨rfl, gM⟩
        have HB := hid0 ((HA.out.alloc _).trans gM)
        have hF2 := (FdAt.ext (f := (xs[k].1, 0, false)) ⟨alloc_new W1 _⟩ gM)
        have o2 := hF2.c2
        simp only at o2
        rw [← HM.out]
        generalize mixN m xs[k].2 0 = nn
        generalize (mixV m xs[k].2 0).isSome = bb
        clear hF2 gM m0 m1 m2 m3 m4 m5 p0 p1
        go_wp2
        go_roundg (gk - 1)
        case measure => omega
        case rel => exact ⟨k + 1, by omega, by go_num, HK.out.1.trans HB.out, HK.out.2.1.ext HB.out, all_take_succ hlt HK.out.2.2 (by rw [HL.out])⟩
      | some z =>
        have HL := hid0 hlk
        clear hlk
        simp only [fv]
        go_wp2_with fail
        refine (Mixed_any _ ⟨no, ma, mb, mc, md, rs⟩ xs[k].2 z).mono ?_
        rintro e W2 ⟨rfl, gM⟩
        have HB := hid0 ((HA.out.alloc _).trans gM)
        have q0 := (World.cell?_of_block (a := ⟨wr.heap.size, 0, none⟩) ((((Kept.refl Non W1).alloc _).trans gM).block _ p2 (fun h => h))).trans p0
        have q1 := (World.cell?_of_block (a := ⟨wr.heap.size, 1, none⟩) ((((Kept.refl Non W1).alloc _).trans gM).block _ p2 (fun h => h))).trans p1
        have q2 : wr.heap.size < W2.heap.size := Nat.lt_of_lt_of_le p2 (((Kept.refl Non W1).alloc _).trans gM).size
        have q3 : wr.heap.size ≠ W2.heap.size := Nat.ne_of_lt q2
        rw [← HM.out]
        have hF2 := (FdAt.ext (f := (xs[k].1, z, true)) ⟨alloc_new W1 _⟩ gM)
        have o1 := hF2.c1
        have o2 := hF2.c2
        simp only at o1 o2
        clear hF2 gM m0 m1 m2 m3 m4 m5 p0 p1
        cases hv : mixV m xs[k].2 z with
        | none =>
          have HV := hid0 hv
          clear hv
          generalize mixN m xs[k].2 z = nn
          simp only [Option.isSome_none]
          go_wp2
          go_roundg (gk - 1)
          case measure => omega
          case rel => exact ⟨k + 1, by omega, by go_num, HK.out.1.trans HB.out, HK.out.2.1.ext HB.out, all_take_succ hlt HK.out.2.2 (by rw [HL.out]; simp only [HV.out]; simp)⟩
        | some c =>
          have HV := hid0 hv
          rw [mixV_some hv]
          clear hv
          simp only [Option.isSome_some]
          by_cases hc : c = xs[k].2
          · have hc' : (c == xs[k].2) = true := by simp [hc]
            by_cases hz : c = z
            · have hz' : (c != z) = false := by simp [hz]
              have HC := hid0 (And.intro hc hz)
              clear hc hz
              go_wp2
              go_roundg (gk - 1)
              case measure => omega
              case rel => exact ⟨k + 1, by omega, by go_num, HK.out.1.trans HB.out, HK.out.2.1.ext HB.out, all_take_succ hlt HK.out.2.2 (by rw [HL.out]; simp only [HV.out]; simp [← HC.out.1, ← HC.out.2])⟩
            · have hz' : (c != z) = true := by simp [hz]
              have HC := hid0 (And.intro hc hz)
              clear hc hz
              go_wp2
              go_ret
              refine ⟨?_, HK.out.1.trans HB.out⟩
              have : freshB (mixV m) xs ys = false := by
                rw [freshB, List.all_eq_false]
                exact ⟨xs[k], List.getElem_mem hlt, by rw [HL.out]; simp only [HV.out]; simp [← HC.out.1, HC.out.2]⟩
              rw [this]; rfl
          · have hc' : (c == xs[k].2) = false := by simp [hc]
            have HC := hid0 hc
            clear hc
            go_wp2
            go_roundg (gk - 1)
            case measure => omega
            case rel => exact ⟨k + 1, by omega, by go_num, HK.out.1.trans HB.out, HK.out.2.1.ext HB.out, all_take_succ hlt HK.out.2.2 (by rw [HL.out]; simp only [HV.out]; simp [HC.out])⟩
    · clear hK
      go_wp2
      go_ret
      refine ⟨?_, HK.out.1⟩
      have : freshB (mixV m) xs ys = true := by
        rw [freshB, List.all_eq_true]
        intro q hq
        exact HK.out.2.2 q (by rw [List.take_of_length_le (by omega)]; exact hq)
      rw [this]; rfl

end Go.Proofs.Ytehegllgaiehfaa
