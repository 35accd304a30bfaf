/- impl.Asked. -/
import Derived.Test.YtehegllgaiehfaaIHist
import Derived.Test.YtehegllgaiehfaaAsk
import Derived.Test.YtehegllgaiehfaaHi
namespace Go.Proofs.Ytehegllgaiehfaa
open Go.RowKit

def anc (a : An) : List Value := (anC a).toList
theorem anc_enc (a : An) : (anc a).length = 24 ∧ ∀ u ∈ anc a, u.oneCell' = true := ⟨rfl, fun u hu => by
  have := anC_one a
  rw [Array.all_eq_true_iff_forall_mem] at this
  exact this u (by simpa [anc] using hu)⟩
abbrev SlAn := @Sl An 24 anc
abbrev OwnAn := @Own An 24 anc 52
theorem tyAn : ElTy 49 52 24 184 := elTy_of (z := .agg #[.int .i32 0, .int .i64 0, .bool false, .int .i32 0, .int .i64 0, .bool false, .int .i32 0, .int .i64 0, .bool false, .int .i32 0, .int .i64 0, .bool false, .int .i32 0, .int .i64 0, .bool false, .int .i32 0, .int .i64 0, .bool false, .int .i32 0, .int .i64 0, .bool false, .int .i64 0, .bool false, .bool false]) (by kernel_rfl) (by kernel_rfl) rfl (by decide)
theorem neq_an (a : An) (w : World) : (binOp .neq 52 (anV a) (anV a)).run Try.prog w = .ok (.bool false) w := by
  simp [anV, go_sem]
theorem Sl.an {w w' : World} {p : Option Addr} {n cap : Nat} {al : List An} (h : SlAn w (.slice p n cap) al) (hk : Kept Non w w') (k : Nat) (hlt : k < al.length) :
    ∃ b off, p = some ⟨b, off, none⟩ ∧ b < w.heap.size ∧ (w'.cell? ⟨b, off + k * 24, none⟩ = some (.int .i32 al[k].f0.1) ∧ w'.cell? ⟨b, off + k * 24 + 1, none⟩ = some (.int .i64 al[k].f0.2.1) ∧ w'.cell? ⟨b, off + k * 24 + 2, none⟩ = some (.bool al[k].f0.2.2) ∧ w'.cell? ⟨b, off + k * 24 + 3, none⟩ = some (.int .i32 al[k].f1.1) ∧ w'.cell? ⟨b, off + k * 24 + 4, none⟩ = some (.int .i64 al[k].f1.2.1) ∧ w'.cell? ⟨b, off + k * 24 + 5, none⟩ = some (.bool al[k].f1.2.2) ∧ w'.cell? ⟨b, off + k * 24 + 6, none⟩ = some (.int .i32 al[k].f2.1) ∧ w'.cell? ⟨b, off + k * 24 + 7, none⟩ = some (.int .i64 al[k].f2.2.1) ∧ w'.cell? ⟨b, off + k * 24 + 8, none⟩ = some (.bool al[k].f2.2.2) ∧ w'.cell? ⟨b, off + k * 24 + 9, none⟩ = some (.int .i32 al[k].f3.1) ∧ w'.cell? ⟨b, off + k * 24 + 10, none⟩ = some (.int .i64 al[k].f3.2.1) ∧ w'.cell? ⟨b, off + k * 24 + 11, none⟩ = some (.bool al[k].f3.2.2) ∧ w'.cell? ⟨b, off + k * 24 + 12, none⟩ = some (.int .i32 al[k].f4.1) ∧ w'.cell? ⟨b, off + k * 24 + 13, none⟩ = some (.int .i64 al[k].f4.2.1) ∧ w'.cell? ⟨b, off + k * 24 + 14, none⟩ = some (.bool al[k].f4.2.2) ∧ w'.cell? ⟨b, off + k * 24 + 15, none⟩ = some (.int .i32 al[k].f5.1) ∧ w'.cell? ⟨b, off + k * 24 + 16, none⟩ = some (.int .i64 al[k].f5.2.1) ∧ w'.cell? ⟨b, off + k * 24 + 17, none⟩ = some (.bool al[k].f5.2.2) ∧ w'.cell? ⟨b, off + k * 24 + 18, none⟩ = some (.int .i32 al[k].f6.1) ∧ w'.cell? ⟨b, off + k * 24 + 19, none⟩ = some (.int .i64 al[k].f6.2.1) ∧ w'.cell? ⟨b, off + k * 24 + 20, none⟩ = some (.bool al[k].f6.2.2) ∧ w'.cell? ⟨b, off + k * 24 + 21, none⟩ = some (.int .i64 al[k].n) ∧ w'.cell? ⟨b, off + k * 24 + 22, none⟩ = some (.bool al[k].e) ∧ w'.cell? ⟨b, off + k * 24 + 23, none⟩ = some (.bool al[k].s)) := by
  obtain ⟨b, off, ha, hb, hc⟩ := h.cells hk k hlt
  exact ⟨b, off, ha, hb, hc 0 _ rfl, hc 1 _ rfl, hc 2 _ rfl, hc 3 _ rfl, hc 4 _ rfl, hc 5 _ rfl, hc 6 _ rfl, hc 7 _ rfl, hc 8 _ rfl, hc 9 _ rfl, hc 10 _ rfl, hc 11 _ rfl, hc 12 _ rfl, hc 13 _ rfl, hc 14 _ rfl, hc 15 _ rfl, hc 16 _ rfl, hc 17 _ rfl, hc 18 _ rfl, hc 19 _ rfl, hc 20 _ rfl, hc 21 _ rfl, hc 22 _ rfl, hc 23 _ rfl⟩
set_option maxRecDepth 100000 in
set_option maxHeartbeats 1000000 in
theorem Asked_any (w : World) (v : Value) (ax : List Ac) (x : Int) (h : SlA w v ax) (hl : ax.length ≤ 1599289640400) (hw : ActsW ax) (hpl : Played ax) (hb : ax.length ≤ 1048576) :
    Calls Try.prog 26 #[v, .int .i32 x] w (fun e w' => ∃ o, e = .returned o ∧ OwnAn w.heap.size w' o ((hist ax).1.map (ask x)) ∧ Kept Non w w') := by
  have HS := hid0 (history_any w v ax h hl hw hpl)
  have hlen := (hist_len ax ax.length (Nat.le_refl _)).1
  rw [List.take_length] at hlen
  obtain ⟨⟨vs, fs⟩, hv⟩ : ∃ H, H = hist ax := ⟨_, rfl⟩
  rw [← hv] at HS hlen ⊢
  simp only at hlen ⊢
  have hn : vs.length ≤ 1048577 := by omega
  clear h hw hpl hlen hv
  go_enter Try.func26, Try.ntmps26
  go_wp2_with fail
  refine HS.out.mono ?_
  rintro e w1 ⟨o, t, vals, rfl, hH⟩
  simp only at hH
  obtain ⟨⟨oa, oc, rfl⟩, ta, tc, rfl⟩ := hH.form (fun s => rfl)
  have HH := hid0 hH
  clear hH HS
  go_wp2
  go_loopg [7, 17] (vs.length) (fun n o i wq => ∃ j : Nat, j + n = vs.length ∧ i = .int .i64 j ∧ Kept Non w1 wq ∧ OwnAn w1.heap.size wq o ((vs.take j).map (ask x)))
  case atStart => exact ⟨0, by simp, rfl, Kept.refl _ _, Own.nil _⟩
  case round =>
    obtain ⟨j, hj, rfl, hK, hO⟩ := hrel
    have HQ := hid0 (And.intro hK hO)
    by_cases hlt : j < vs.length
    · obtain ⟨g, off, b, rfl, hg, hc1, hp1⟩ := (HH.out.ext hK).get (fun s => rfl) j hlt
      have v1 := hc1 _ rfl
      have hgv : vs.getD j [] = vs[j] := by rw [List.getD_eq_getElem?_getD, List.getElem?_eq_getElem hlt]; rfl
      rw [hgv] at hp1
      have HT := hid0 hp1
      have hi0 : (0 : Int) ≤ (j : Int) := Int.natCast_nonneg _
      have hi1 : (j : Int) < (vs.length : Int) := by omega
      have HLn : Hid (((vs.take j).map (ask x)).length + 1 ≤ 1048578) := by
        show _ ≤ _
        rw [List.length_map, List.length_take]
        omega
      clear hK hO hc1 hp1 hgv
      go_wp2_with fail
      refine (answers_any _ b 0 vs[j] x HT.out.at).mono ?_
      rintro e W6 ⟨rfl, g6⟩
      have HX := hid0 (And.intro (HQ.out.1.trans g6) (HQ.out.2.ext' g6))
      have hs6 := HX.out.1.size
      obtain ⟨an, han⟩ : ∃ an, an = ask x vs[j] := ⟨_, rfl⟩
      rw [← han]
      have HAN := hid0 han
      simp only [anV]
      clear g6 han
      go_wp2_with (at_builtin; refine wpList_app2 rfl (.tmp 21) (.tmp 25) rfl tyAn anc_enc w1.heap.size _ _ rfl (HX.out.2.alloc _) W6.heap.size an rfl (new_cells (cs := anc an) (by simp)) (by have := HLn.out; omega) (by decide) (by simp; omega) ?_)
      intro o7 w7 g1 g2
      have H7 := hid0 (And.intro g1 ((HX.out.1.alloc _).trans' g2 (fun i hi e => by have := HX.out.2.block i e; omega)))
      clear g1 g2
      go_wp2
      go_roundg (gk - 1)
      case measure => omega
      case rel => exact ⟨j + 1, by omega, by go_num, H7.out.2, by rw [List.take_succ_eq_append_getElem hlt, List.map_append, List.map_cons, List.map_nil, ← HAN.out, List.map_take]; exact H7.out.1⟩
    · have HE : Hid (vs.take j = vs) := List.take_of_length_le (by omega)
      clear hK hO
      go_wp2
      go_ret
      exact ⟨_, rfl, by have := HQ.out.2; rw [HE.out] at this; exact this.mono HH.out.kept.size, HH.out.kept.trans HQ.out.1⟩

end Go.Proofs.Ytehegllgaiehfaa
