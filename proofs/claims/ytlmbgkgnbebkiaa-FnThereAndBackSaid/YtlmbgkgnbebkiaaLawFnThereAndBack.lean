/- The walk of FnThereAndBack. -/
import Derived.Test.YtlmbgkgnbebkiaaInsI
import Derived.Test.YtlmbgkgnbebkiaaDelI
import Derived.Test.YtlmbgkgnbebkiaaEq3
import Derived.Test.YtlmbgkgnbebkiaaLook
namespace Go.Proofs.Ytlmbgkgnbebkiaa
open Go.RowKit

set_option maxRecDepth 100000 in
set_option maxHeartbeats 4000000 in
theorem FnThereAndBack_walk (w : World) (vp : Value) (p : Ps) (hp : SlP w vp p) (lp : p.length ≤ 8796093021952) (wp : KeysW p) (_dp : DataR p) (x : Int) (rx : -2147483648 ≤ x ∧ x ≤ 2147483647) (d : Int) (_rd : -9223372036854775808 ≤ d ∧ d ≤ 9223372036854775807) :
    Calls Try.prog 10 #[vp, .int .i32 x, .int .i64 d] w fun e w' => e = .returned (.bool true) ∧ Kept Non w w' := by
  have HWp := hid0 wp
  have HX := hid0 rx
  have G0 := hid0 (And.intro (Kept.refl Non w) hp)
  clear hp wp rx
  cases hkp : keyedB p with
  | false =>
    have HKp := hid0 hkp
    clear hkp
    go_enter Try.func10, Try.ntmps10
    go_wp2_with fail
    refine (keyed_any _ vp p G0.out.2 (by omega)).mono ?_
    rintro e W1 ⟨rfl, g⟩
    have G1 := hid0 (And.intro (G0.out.1.trans g) (G0.out.2.ext g))
    clear g G0
    rw [HKp.out]
    go_wp2
    go_ret
    exact ⟨rfl, G1.out.1⟩
  | true =>
    have HKp := hid0 hkp
    clear hkp
    by_cases hx : x = -2147483648
    · have hx' : (x == -2147483648) = true := by simpa using hx
      clear hx
      go_enter Try.func10, Try.ntmps10
      go_wp2_with fail
      refine (keyed_any _ vp p G0.out.2 (by omega)).mono ?_
      rintro e W1 ⟨rfl, g⟩
      have G1 := hid0 (And.intro (G0.out.1.trans g) (G0.out.2.ext g))
      clear g G0
      rw [HKp.out]
      go_wp2
      go_ret
      exact ⟨rfl, G1.out.1⟩
    · have hx' : (x == -2147483648) = false := by simpa using hx
      have HXX := hid0 hx
      clear hx
      have hxr : -2147483648 < x ∧ x ≤ 2147483647 := by have := HX.out; have h2 := HXX.out; omega
      have HXR := hid0 hxr
      have hkt := hid0 (treeP_ok (HWp.out.ok HKp.out) p.length)
      rw [List.take_length] at hkt
      have HLP := hid0 (Ok.length hkt.out)
      have hok2 : Ok (put x d (treeP p)) := hkt.out.put x d hxr
      have HK2 := hid0 hok2
      have HT2 := hid0 (treeP_up (xs := put x d (treeP p)) hok2.srt)
      have he : drop x (put x d (treeP p)) = drop x (treeP p) := Up.ext ((Up.put hkt.out.srt x d).drop x) (Up.drop hkt.out.srt x) fun k => by
        rw [look_drop, look_drop, look_put]
        by_cases e : k = x <;> simp [e]
      have HE := hid0 he
      have hf : fdAt x (findP x (put x d (treeP p))) = (x, d, true) := by rw [find_look, look_put, if_pos rfl]; rfl
      have HF := hid0 hf
      have hok3 : Ok (drop x (treeP p)) := hkt.out.sub List.filter_sublist
      have HK3 := hid0 hok3
      clear hxr hok2 he hf hok3
      go_enter Try.func10, Try.ntmps10
      go_wp2_with fail
      refine (keyed_any _ vp p G0.out.2 (by omega)).mono ?_
      rintro e W1 ⟨rfl, g⟩
      have G1 := hid0 (And.intro (G0.out.1.trans g) (G0.out.2.ext g))
      clear g G0
      rw [HKp.out]
      go_wp2_with fail
      refine (Insert_any _ _ p x d HXR.out G1.out.2 (by omega) (HWp.out.ok HKp.out)).mono ?_
      rintro e W2 ⟨v1, rfl, o, g⟩
      have G2 := hid0 (And.intro (G1.out.1.trans g) (And.intro (G1.out.2.ext g) (OwnP.sl o)))
      clear g o G1
      obtain ⟨f, hf⟩ : ∃ f, f = fdAt x (findP x (treeP p)) := ⟨_, rfl⟩
      rw [← hf]
      clear hf
      obtain ⟨f0, f1, f2⟩ := f
      simp only [fv]
      go_wp2_with fail
      refine (Delete_any _ _ (put x d (treeP p)) x (G2.out.2.2.ext ((Kept.refl _ _).alloc _)) (by have := Ok.length HK2.out; omega) HK2.out.rng).mono ?_
      rintro e W3 ⟨v2, rfl, o, g⟩
      have G3 := hid0 (And.intro ((G2.out.1.alloc _).trans g) (And.intro ((G2.out.2.1.ext ((Kept.refl _ _).alloc _)).ext g) (And.intro ((G2.out.2.2.ext ((Kept.refl _ _).alloc _)).ext g) (OwnP.sl o))))
      clear g o G2
      rw [HT2.out, HF.out]
      rw [HT2.out, HE.out] at G3
      simp only [fv]
      go_wp2_with fail
      refine (Delete_any _ _ p x (G3.out.2.1.ext ((Kept.refl _ _).alloc _)) (by omega) (HWp.out.ok HKp.out)).mono ?_
      rintro e W4 ⟨v3, rfl, o, g⟩
      have G4 := hid0 (And.intro ((G3.out.1.alloc _).trans g) (And.intro ((G3.out.2.1.ext ((Kept.refl _ _).alloc _)).ext g) (And.intro ((G3.out.2.2.1.ext ((Kept.refl _ _).alloc _)).ext g) (And.intro ((G3.out.2.2.2.ext ((Kept.refl _ _).alloc _)).ext g) (And.intro (FdAt.ext (f := (x, d, true)) ⟨alloc_new _ _⟩ g) (OwnP.sl o))))))
      clear g o G3
      obtain ⟨f, hf⟩ : ∃ f, f = fdAt x (findP x (treeP p)) := ⟨_, rfl⟩
      rw [← hf]
      clear hf
      obtain ⟨h0, h1, h2⟩ := f
      simp only [fv]
      have c0 := fun o => (FdAt.alloc G4.out.2.2.2.2.1 o).c0
      have c1 := fun o => (FdAt.alloc G4.out.2.2.2.2.1 o).c1
      have c2 := fun o => (FdAt.alloc G4.out.2.2.2.2.1 o).c2
      simp only at c0 c1 c2
      have hne : W3.heap.size ≠ W4.heap.size := Nat.ne_of_lt (block_lt G4.out.2.2.2.2.1.blk)
      have hq := eql_fd0 x d x d true true
      have hqq : (x == x && (d == d && true == true)) = true := by simp
      rw [hqq] at hq
      clear hqq
      go_wp2_with fail
      refine (Same_any _ _ _ (drop x (treeP p)) (drop x (treeP p)) (G4.out.2.2.2.1.ext ((Kept.refl _ _).alloc _)) (G4.out.2.2.2.2.2.ext ((Kept.refl _ _).alloc _)) (by have := Ok.length HK3.out; omega)).mono ?_
      rintro e W5 ⟨rfl, g⟩
      have G5 := hid0 (And.intro ((G4.out.1.alloc _).trans g) (And.intro ((G4.out.2.1.ext ((Kept.refl _ _).alloc _)).ext g) (And.intro ((G4.out.2.2.1.ext ((Kept.refl _ _).alloc _)).ext g) (And.intro ((G4.out.2.2.2.1.ext ((Kept.refl _ _).alloc _)).ext g) (And.intro ((G4.out.2.2.2.2.1.ext ((Kept.refl _ _).alloc _)).ext g) ((G4.out.2.2.2.2.2.ext ((Kept.refl _ _).alloc _)).ext g))))))
      clear g G4
      rw [decide_eq_true (rfl : drop x (treeP p) = drop x (treeP p))]
      go_wp2_with fail
      refine (Equals_any _ _ _ (drop x (treeP p)) (drop x (treeP p)) G5.out.2.2.2.1 G5.out.2.2.2.2.2 (by have := Ok.length HK3.out; omega) (by have := Ok.length HK3.out; omega) HK3.out.rng HK3.out.rng).mono ?_
      rintro e W6 ⟨rfl, g⟩
      have G6 := hid0 (And.intro (G5.out.1.trans g) (And.intro (G5.out.2.1.ext g) (And.intro (G5.out.2.2.1.ext g) (And.intro (G5.out.2.2.2.1.ext g) (And.intro (G5.out.2.2.2.2.1.ext g) (G5.out.2.2.2.2.2.ext g))))))
      clear g G5
      rw [decide_eq_true (rfl : treeP (drop x (treeP p)) = treeP (drop x (treeP p)))]
      go_wp2
      go_ret
      exact ⟨rfl, G6.out.1⟩

end Go.Proofs.Ytlmbgkgnbebkiaa
