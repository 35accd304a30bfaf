/- The walk of FnDelete. -/
import Derived.Test.YtnpeieijadiobaaFP
import Derived.Test.YtnpeieijadiobaaDrop
namespace Go.Proofs.Ytnpeieijadiobaa
open Go.RowKit

set_option maxRecDepth 100000 in
theorem Delete_any (w : World) (v : Value) (ps : List (Int × Int)) (x : Int) (h : SlP w v ps) (hl : ps.length ≤ 8796093022208) (hok : KeysOk ps) :
    Calls Try.prog 24 #[v, .int .i32 x] w (RetFP w (fdAt x (findP x (treeP ps))) (drop x (treeP ps))) := by
  have HT := hid (fun W (hK : Kept Non w W) => tree_any W v ps (h.ext hK) hl hok)
  obtain ⟨r, hr⟩ : ∃ r, r = findP x (treeP ps) := ⟨_, rfl⟩
  rw [← hr]
  have HR := hid hr
  obtain ⟨f, hf⟩ : ∃ f, f = fdAt x r := ⟨_, rfl⟩
  rw [← hf]
  obtain ⟨f0, f1, f2⟩ := f
  have HF := hid hf
  clear h hok hr hf
  go_enter Try.func24, Try.ntmps24
  go_wp2_with fail
  refine (HT.out _ ((Kept.refl _ _).alloc _)).mono ?_
  rintro e w1 ⟨b, rfl, hb, g1, g2⟩
  have hF : FdAt w1 w.heap.size (0, 0, false) := FdAt.ext ⟨alloc_new w _⟩ g2
  have hne : w.heap.size ≠ b := by simp at hb; omega
  have HG := hid (And.intro g1 (And.intro (((Kept.refl _ w).alloc _).trans g2) hF))
  have hbb : w.heap.size ≤ b := by simp at hb; omega
  clear g1 g2 hF hb
  go_wp2_with fail
  refine (TDelete_any _ b _ x HG.out.1).mono ?_
  rintro e w2 ⟨rfl, g1, g2⟩
  rw [← HR.out]
  have hK2 : Kept Non w w2 := HG.out.2.1.trans' g2 (fun i hi e => by have : i = b := e; omega)
  have hF2 : FdAt w2 w.heap.size (0, 0, false) := ⟨(g2.block _ (block_lt HG.out.2.2.blk) hne).trans HG.out.2.2.blk⟩
  have HG2 := hid (And.intro g1 (And.intro hK2 hF2))
  clear g1 g2 hK2 hF2
  obtain ⟨dd, hd⟩ : ∃ dd, dd = dv r := ⟨_, rfl⟩
  have HD := hid hd
  rw [← hd]
  clear hd
  go_wp2_with fail
  rw [HD.out]
  refine (found_at _ x r).mono ?_
  rintro e w3 ⟨rfl, g3⟩
  rw [← HF.out]
  have HG3 := hid (And.intro (HG2.out.1.ext g3) (And.intro (HG2.out.2.1.trans g3) (HG2.out.2.2.ext g3)))
  clear g3
  simp only [fv]
  go_wp2_with fail
  refine (pairs_any _ b 0 _ HG3.out.1.at).mono ?_
  rintro e w4 ⟨v4, rfl, g1, g2⟩
  have hF := HG3.out.2.2.ext g2
  have r0 := hF.c0
  have r1 := hF.c1
  have r2 := hF.c2
  have rf := hF.fz
  have HG4 := hid (And.intro g1 (And.intro (HG3.out.2.1.trans g2) hF))
  clear g1 g2 hF
  go_wp2
  refine bodyPost_ret (v := .tuple #[.agg #[.int .i32 f0, .int .i64 f1, .bool f2], v4]) (by simp [results, Try.results24, go_sem, *]) rfl ⟨v4, rfl, ?_, ?_⟩
  · have hlt := block_lt HG3.out.2.2.blk
    refine (HG4.out.1.ext (S := One w.heap.size) ((((Kept.refl (One w.heap.size) w4).setOne 0 _).setOne 1 _).setOne 2 _) (fun c hc e => ?_)).mono (Nat.le_of_lt hlt)
    have e' : c = w.heap.size := e
    omega
  · repeat (first | exact HG4.out.2.1 | refine Kept.alloc ?_ _ | refine Kept.setNew ?_ _ _ (Nat.le_refl _) _)

set_option maxRecDepth 100000 in
set_option maxHeartbeats 2000000 in
theorem FnDelete_walk (w : World) (v : Value) (ps : List (Int × Int)) (h : SlP w v ps) (hl : ps.length ≤ 8796093021952) (hw : KeysW ps) (_hd : DataR ps) (x : Int) (_hx : -2147483648 ≤ x ∧ x ≤ 2147483647) :
    Calls Try.prog 4 #[v, .int .i32 x] w fun e w' => e = .returned (.bool true) ∧ Kept Non w w' := by
  have HS := hid h
  have HW := hid hw
  clear h hw
  cases hk : keyedB ps with
  | false =>
    have HK := hid hk
    clear hk
    go_enter Try.func4, Try.ntmps4
    go_wp2_with fail
    refine (keyed_any _ _ ps HS.out (by omega)).mono ?_
    rintro e w1 ⟨rfl, g1⟩
    rw [HK.out]
    have HG := hid g1
    clear g1
    go_wp2
    go_ret
    exact ⟨rfl, HG.out⟩
  | true =>
    have HK := hid hk
    clear hk
    go_enter Try.func4, Try.ntmps4
    go_wp2_with fail
    refine (keyed_any _ _ ps HS.out (by omega)).mono ?_
    rintro e w1 ⟨rfl, g1⟩
    rw [HK.out]
    have HG := hid g1
    clear g1
    go_wp2_with fail
    refine (Tree_any _ _ ps (HS.out.ext HG.out) (by omega) HW.out).mono ?_
    rintro e w2 ⟨v2, rfl, g3, g4⟩
    have HG2 := hid (And.intro (HG.out.trans g4) (OwnP.sl g3))
    clear g3 g4 HG
    go_wp2_with fail
    refine (Delete_any _ _ ps x (HS.out.ext HG2.out.1) (by omega) (HW.out.ok HK.out)).mono ?_
    rintro e w3 ⟨v3, rfl, g3, g4⟩
    have HG3 := hid (And.intro (HG2.out.1.trans g4) (And.intro (HG2.out.2.ext g4) (OwnP.sl g3)))
    clear g3 g4 HG2
    have hlen := treeP_len HW.out ps.length
    have hsrt := (treeP_wide HW.out ps.length).1
    rw [List.take_length] at hlen hsrt
    have HL := hid (And.intro hlen hsrt)
    obtain ⟨S1, hS1⟩ : ∃ S1, S1 = treeP ps := ⟨_, rfl⟩
    rw [← hS1] at HG3 HL ⊢
    clear hlen hsrt hS1
    obtain ⟨f, hf⟩ : ∃ f, f = fdAt x (findP x S1) := ⟨_, rfl⟩
    rw [← hf]
    have HF := hid hf
    obtain ⟨f0, f1, f2⟩ := f
    simp only [fv]
    clear hf
    have hy0 : drop x S1 = drop x S1 := rfl
    have HN : Hid ((drop x S1).length ≤ 4294967296) := Nat.le_trans ((List.filter_sublist : (drop x S1).Sublist S1)).length_le HL.out.1
    obtain ⟨Y1, hY1⟩ : ∃ Y1, Y1 = drop x S1 := ⟨_, rfl⟩
    have HY : Hid (drop x S1 = Y1) := hy0.trans hY1.symm
    rw [← hY1] at HG3 HN
    clear hY1 hy0
    go_wp2_with fail
    refine wp_gen (fun W => FdAt W w3.heap.size (f0, f1, f2) ∧ Kept Non w W ∧ SlP W v2 S1 ∧ SlP W v3 Y1) ⟨⟨alloc_new _ _⟩, HG3.out.1.alloc _, HG3.out.2.1.ext ((Kept.refl _ _).alloc _), HG3.out.2.2.ext ((Kept.refl _ _).alloc _)⟩ ?_
    rintro W ⟨q1, q2, q3, q4⟩
    have HQ := hid (And.intro q1 (And.intro q2 (And.intro q3 q4)))
    have r0 := q1.c0
    have r1 := q1.c1
    have r2 := q1.c2
    have rk : Kept Non W W := Kept.refl _ _
    have hfd := field0_fd f0 f1 f2
    clear q1 q2 q3 q4
    go_region_held3 (fun W' => W'.cell? ⟨w3.heap.size, 0, none⟩ = some (.int .i32 f0) ∧ W'.cell? ⟨w3.heap.size, 1, none⟩ = some (.int .i64 f1) ∧ W'.cell? ⟨w3.heap.size, 2, none⟩ = some (.bool f2) ∧ Kept Non W W')
      (first | exact held_fd HQ.out.1 (Kept.refl _ _) (Kept.refl _ _).drew | (go_split_ands; exact held_fd HQ.out.1 (by assumption) (by assumption)))
      (first | (go_at_call 25; go_split_ands; refine (At_any _ _ S1 x (HQ.out.2.2.1.ext (by assumption)) (by have := HL.out.1; omega)).mono ?_; rintro e W1 ⟨rfl, gA⟩; rw [← HF.out]; simp only [fv]) | (go_at_call 27; go_split_ands; refine (Drop_any _ _ S1 _ (HQ.out.2.2.1.ext (by assumption)) (by have := HL.out.1; omega)).mono ?_; rintro e W2 ⟨v5, rfl, gP, gK⟩; rw [HY.out] at gP) | (go_at_call 26; go_split_ands; refine (Same_any _ _ _ Y1 Y1 (HQ.out.2.2.2.ext (by assumption)) (OwnP.sl gP) (by have := HN.out; omega)).mono ?_; rintro e W3 ⟨rfl, gS⟩; rw [decide_eq_true (rfl : Y1 = Y1)]))
    go_wp2
    go_ret
    go_split_ands
    exact ⟨rfl, HQ.out.2.1.trans (by assumption)⟩

end Go.Proofs.Ytnpeieijadiobaa
