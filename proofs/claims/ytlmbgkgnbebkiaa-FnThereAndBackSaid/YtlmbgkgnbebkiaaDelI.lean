/- impl.Delete. -/
import Derived.Test.YtlmbgkgnbebkiaaFP
import Derived.Test.YtlmbgkgnbebkiaaDrop
namespace Go.Proofs.Ytlmbgkgnbebkiaa
open Go.RowKit

set_option maxRecDepth 100000 in
theorem Delete_any (w : World) (v : Value) (ps : List (Int × Int)) (x : Int) (h : SlP w v ps) (hl : ps.length ≤ 8796093022208) (hok : KeysOk ps) :
    Calls Try.prog 39 #[v, .int .i32 x] w (RetFP w (fdAt x (findP x (treeP ps))) (drop x (treeP ps))) := by
  have HT := hid (fun W (hK : Kept Non w W) => tree_any W v ps (h.ext hK) hl hok)
  obtain ⟨r, hr⟩ : ∃ r, r = findP x (treeP ps) := ⟨_, rfl⟩
  rw [← hr]
  have HR := hid hr
  obtain ⟨f, hf⟩ : ∃ f, f = fdAt x r := ⟨_, rfl⟩
  rw [← hf]
  obtain ⟨f0, f1, f2⟩ := f
  have HF := hid hf
  clear h hok hr hf
  go_enter Try.func39, Try.ntmps39
  go_wp2_with fail
  refine (HT.out _ ((Kept.refl _ _).alloc _)).mono ?_
  rintro e w1 ⟨b, rfl, hb, g1, g2⟩
  have hF : FdAt w1 w.heap.size (0, 0, false) := FdAt.ext ⟨alloc_new w _⟩ g2
  have hne : w.heap.size ≠ b := by simp at hb; omega
  have HG := hid (And.intro g1 (And.intro (((Kept.refl _ w).alloc _).trans g2) hF))
  have hbb : w.heap.size ≤ b := by simp at hb; omega
  clear g1 g2 hF hb
  go_wp2_with fail
  refine (TDelete_any _ b _ x HG.out.1).mono ?_
  rintro e w2 ⟨rfl, g1, g2⟩
  rw [← HR.out]
  have hK2 : Kept Non w w2 := HG.out.2.1.trans' g2 (fun i hi e => by have : i = b := e; omega)
  have hF2 : FdAt w2 w.heap.size (0, 0, false) := ⟨(g2.block _ (block_lt HG.out.2.2.blk) hne).trans HG.out.2.2.blk⟩
  have HG2 := hid (And.intro g1 (And.intro hK2 hF2))
  clear g1 g2 hK2 hF2
  obtain ⟨dd, hd⟩ : ∃ dd, dd = dv r := ⟨_, rfl⟩
  have HD := hid hd
  rw [← hd]
  clear hd
  go_wp2_with fail
  rw [HD.out]
  refine (found_at _ x r).mono ?_
  rintro e w3 ⟨rfl, g3⟩
  rw [← HF.out]
  have HG3 := hid (And.intro (HG2.out.1.ext g3) (And.intro (HG2.out.2.1.trans g3) (HG2.out.2.2.ext g3)))
  clear g3
  simp only [fv]
  go_wp2_with fail
  refine (pairs_any _ b 0 _ HG3.out.1.at).mono ?_
  rintro e w4 ⟨v4, rfl, g1, g2⟩
  have hF := HG3.out.2.2.ext g2
  have r0 := hF.c0
  have r1 := hF.c1
  have r2 := hF.c2
  have rf := hF.fz
  have HG4 := hid (And.intro g1 (And.intro (HG3.out.2.1.trans g2) hF))
  clear g1 g2 hF
  go_wp2
  refine bodyPost_ret (v := .tuple #[.agg #[.int .i32 f0, .int .i64 f1, .bool f2], v4]) (by simp [results, Try.results39, go_sem, *]) rfl ⟨v4, rfl, ?_, ?_⟩
  · have hlt := block_lt HG3.out.2.2.blk
    refine (HG4.out.1.ext (S := One w.heap.size) ((((Kept.refl (One w.heap.size) w4).setOne 0 _).setOne 1 _).setOne 2 _) (fun c hc e => ?_)).mono (Nat.le_of_lt hlt)
    have e' : c = w.heap.size := e
    omega
  · repeat (first | exact HG4.out.2.1 | refine Kept.alloc ?_ _ | refine Kept.setNew ?_ _ _ (Nat.le_refl _) _)

end Go.Proofs.Ytlmbgkgnbebkiaa
