/- The walk of FnEquiv. -/
import Derived.Test.YtlmbgkgnbebkiaaEqv
import Derived.Test.YtlmbgkgnbebkiaaLook
import Derived.Test.YtlmbgkgnbebkiaaSame
namespace Go.Proofs.Ytlmbgkgnbebkiaa
open Go.RowKit

theorem eqvL_snoc {mod : Int} : ∀ {xs ys : Ps} (a b : Int × Int), xs.length = ys.length → eqvL mod (xs ++ [a]) (ys ++ [b]) = (eqvL mod xs ys && (a.1 == b.1 && sameM mod a.2 b.2))
  | [], [], a, b, _ => by simp [eqvL]
  | [], _ :: _, _, _, h => by simp at h
  | _ :: _, [], _, _, h => by simp at h
  | p :: ps, q :: qs, a, b, h => by
    rw [List.cons_append, List.cons_append, eqvL, eqvL, eqvL_snoc a b (by simpa using h)]
    simp only [Bool.and_assoc]
/-- how far two lists have been found alike -/
def alike (mod : Int) (xs ys : Ps) (k : Nat) : Bool := decide (xs.length = ys.length) && eqvL mod (xs.take k) (ys.take k)
theorem alike_end (mod : Int) (xs ys : Ps) (k : Nat) (h : xs.length ≤ k) : alike mod xs ys k = eqvL mod xs ys := by
  unfold alike
  by_cases hl : xs.length = ys.length
  · rw [List.take_of_length_le h, List.take_of_length_le (by omega)]; simp [hl]
  · rw [eqvL_len hl]; simp [hl]
theorem alike_succ (mod : Int) (xs ys : Ps) (k : Nat) (h1 : k < xs.length) (h2 : k < ys.length) : alike mod xs ys (k + 1) = (alike mod xs ys k && (xs[k].1 == ys[k].1 && sameM mod xs[k].2 ys[k].2)) := by
  unfold alike
  rw [List.take_succ_eq_append_getElem h1, List.take_succ_eq_append_getElem h2, eqvL_snoc _ _ (by rw [List.length_take, List.length_take]; omega), Bool.and_assoc]
theorem alike_ne (mod : Int) (xs ys : Ps) (k : Nat) (h : ¬ xs.length = ys.length) : alike mod xs ys k = false := by
  unfold alike; simp [h]
theorem alike_false (mod : Int) (xs ys : Ps) (k : Nat) (h1 : k < xs.length) (h : alike mod xs ys k = false) : alike mod xs ys (k + 1) = false := by
  by_cases hl : xs.length = ys.length
  · rw [alike_succ mod xs ys k h1 (by omega), h]; rfl
  · exact alike_ne mod xs ys _ hl

set_option maxRecDepth 100000 in
set_option maxHeartbeats 1000000 in
theorem FnEquiv_walk (w : World) (vp : Value) (p : Ps) (hp : SlP w vp p) (lp : p.length ≤ 8796093021952) (wp : KeysW p) (_dp : DataR p) (vq : Value) (q : Ps) (hq : SlP w vq q) (lq : q.length ≤ 8796093021952) (wq : KeysW q) (_dq : DataR q) (mod : Int) (_rmod : -9223372036854775808 ≤ mod ∧ mod ≤ 9223372036854775807) :
    Calls Try.prog 7 #[vp, vq, .int .i64 mod] w fun e w' => e = .returned (.bool true) ∧ Kept Non w w' := by
  have HWp := hid0 wp
  have HWq := hid0 wq
  have G0 := hid0 (And.intro (Kept.refl Non w) (And.intro hp hq))
  have hlp : (treeP p).length ≤ 4294967296 := by
    have := treeP_len wp p.length
    rwa [List.take_length] at this
  have hlq : (treeP q).length ≤ 4294967296 := by
    have := treeP_len wq q.length
    rwa [List.take_length] at this
  clear hp hq wp wq
  cases hkp : keyedB p with
  | false =>
    have HKp := hid0 hkp
    clear hkp
    go_enter Try.func7, Try.ntmps7
    go_wp2_with fail
    refine (keyed_any _ _ p G0.out.2.1 (by omega)).mono ?_
    rintro e W1 ⟨rfl, g⟩
    have G1 := hid0 (And.intro (G0.out.1.trans g) (And.intro (G0.out.2.1.ext g) (G0.out.2.2.ext g)))
    clear g G0
    rw [HKp.out]
    go_wp2
    go_ret
    exact ⟨rfl, G1.out.1⟩
  | true =>
    have HKp := hid0 hkp
    clear hkp
    cases hkq : keyedB q with
    | false =>
      have HKq := hid0 hkq
      clear hkq
      go_enter Try.func7, Try.ntmps7
      go_wp2_with fail
      refine (keyed_any _ _ p G0.out.2.1 (by omega)).mono ?_
      rintro e W1 ⟨rfl, g⟩
      have G1 := hid0 (And.intro (G0.out.1.trans g) (And.intro (G0.out.2.1.ext g) (G0.out.2.2.ext g)))
      clear g G0
      rw [HKp.out]
      go_wp2_with fail
      refine (keyed_any _ _ q G1.out.2.2 (by omega)).mono ?_
      rintro e W2 ⟨rfl, g⟩
      have G2 := hid0 (And.intro (G1.out.1.trans g) (And.intro (G1.out.2.1.ext g) (G1.out.2.2.ext g)))
      clear g G1
      rw [HKq.out]
      go_wp2
      go_ret
      exact ⟨rfl, G2.out.1⟩
    | true =>
      have HKq := hid0 hkq
      clear hkq
      go_enter Try.func7, Try.ntmps7
      go_wp2_with fail
      refine (keyed_any _ _ p G0.out.2.1 (by omega)).mono ?_
      rintro e W1 ⟨rfl, g⟩
      have G1 := hid0 (And.intro (G0.out.1.trans g) (And.intro (G0.out.2.1.ext g) (G0.out.2.2.ext g)))
      clear g G0
      rw [HKp.out]
      go_wp2_with fail
      refine (keyed_any _ _ q G1.out.2.2 (by omega)).mono ?_
      rintro e W2 ⟨rfl, g⟩
      have G2 := hid0 (And.intro (G1.out.1.trans g) (And.intro (G1.out.2.1.ext g) (G1.out.2.2.ext g)))
      clear g G1
      rw [HKq.out]
      go_wp2_with fail
      refine (Tree_any _ _ p G2.out.2.1 (by omega) HWp.out).mono ?_
      rintro e W3 ⟨tv, rfl, o, g⟩
      obtain ⟨ta, tc, rfl⟩ := (OwnP.sl o).form
      have G3 := hid0 (And.intro (G2.out.1.trans g) (And.intro (G2.out.2.1.ext g) (And.intro (G2.out.2.2.ext g) (OwnP.sl o))))
      clear g o G2
      go_wp2_with fail
      refine (Tree_any _ _ q G3.out.2.2.1 (by omega) HWq.out).mono ?_
      rintro e W4 ⟨uv, rfl, o, g⟩
      obtain ⟨ua, uc, rfl⟩ := (OwnP.sl o).form
      have G4 := hid0 (And.intro (G3.out.1.trans g) (And.intro (G3.out.2.1.ext g) (And.intro (G3.out.2.2.1.ext g) (And.intro (G3.out.2.2.2.ext g) (OwnP.sl o)))))
      clear g o G3
      have hE := fun (W : World) (h1 : SlP W vp p) (h2 : SlP W vq q) => Equiv_any W vp vq p q mod h1 h2 (by omega) (by omega) (HWp.out.ok HKp.out) (HWq.out.ok HKq.out)
      obtain ⟨xs, hxs⟩ : ∃ xs, xs = treeP p := ⟨_, rfl⟩
      obtain ⟨ys, hys⟩ : ∃ ys, ys = treeP q := ⟨_, rfl⟩
      rw [← hxs] at hE hlp G4 ⊢
      rw [← hys] at hE hlq G4 ⊢
      have HE := hid0 hE
      clear hE hxs hys
      have hst : ((xs.length : Int) == (ys.length : Int)) = alike mod xs ys 0 := by
        unfold alike
        by_cases h : xs.length = ys.length
        · simp [h, eqvL]
        · have h2 : ((xs.length : Int) == (ys.length : Int)) = false := by simp; omega
          rw [h2]; simp [h]
      have HST := hid0 hst
      generalize hs0 : ((xs.length : Int) == (ys.length : Int)) = s0 at hst
      clear hst
      go_wp2
      go_loopg [9, 31] (xs.length) (fun n s i wr => ∃ k : Nat, k + n = xs.length ∧ i = .int .i64 k ∧ Kept Non W4 wr ∧ s = .bool (alike mod xs ys k))
      case atStart => exact ⟨0, by simp, rfl, Kept.refl _ _, by rw [← HST.out, hs0]⟩
      case round =>
        obtain ⟨k, hk, rfl, hK, rfl⟩ := hrel
        have HK := hid0 hK
        by_cases hlt : k < xs.length
        · obtain ⟨b, off, rfl, _, c0, c1⟩ := (G4.out.2.2.2.1.ext hK).pair (Kept.refl _ _) k hlt
          cases hal : alike mod xs ys k with
          | false =>
            have HN := hid0 (alike_false mod xs ys k hlt hal)
            clear hK hal
            go_wp2_with fail
            go_quiet (fail)
            go_wp2
            go_roundg (gk - 1)
            case measure => omega
            case rel => exact ⟨k + 1, by omega, by go_num, (HK.out.alloc _).drewN _, by rw [HN.out]⟩
          | true =>
            have hll : xs.length = ys.length := by
              by_cases h : xs.length = ys.length
              · exact h
              · rw [alike_ne mod xs ys k h] at hal; cases hal
            have hlt2 : k < ys.length := by omega
            have HN := hid0 (alike_succ mod xs ys k hlt hlt2)
            rw [hal] at HN
            obtain ⟨b', off', rfl, hb', d0, d1⟩ := (G4.out.2.2.2.2.ext hK).pair (Kept.refl _ _) k hlt2
            have hbr : b' ≠ wr.heap.size := Nat.ne_of_lt hb'
            have hi0 : (0 : Int) ≤ (k : Int) := Int.natCast_nonneg _
            have hi1 : (k : Int) < (ys.length : Int) := by omega
            clear hK hal hll
            go_wp2_with fail
            refine wp_gen (fun W => W.cell? ⟨wr.heap.size, 0, none⟩ = some (.int .i32 xs[k].1) ∧ W.cell? ⟨wr.heap.size, 1, none⟩ = some (.int .i64 xs[k].2) ∧ W.cell? ⟨b', off' + k * 2, none⟩ = some (.int .i32 ys[k].1) ∧ W.cell? ⟨b', off' + k * 2 + 1, none⟩ = some (.int .i64 ys[k].2) ∧ Kept Non W4 W) ⟨?_, ?_, ?_, ?_, HK.out.alloc _⟩ ?_
            · rw [cell_of (alloc_new wr _)]; rfl
            · rw [cell_of (alloc_new wr _)]; rfl
            · rw [World.cell?_alloc_old _ _ _ hbr]; exact d0
            · rw [World.cell?_alloc_old _ _ _ hbr]; exact d1
            rintro W ⟨e0, e1, e2, e3, hKW⟩
            have HW := hid0 hKW
            clear hKW c0 c1 d0 d1
            cases hkey : (xs[k].1 == ys[k].1) with
            | false =>
              rw [hkey] at HN
              go_quiet (fail)
              go_wp2
              go_roundg (gk - 1)
              case measure => omega
              case rel => exact ⟨k + 1, by omega, by go_num, HW.out.drewN _, by rw [HN.out]; rfl⟩
            | true =>
              rw [hkey] at HN
              by_cases h0 : mod = 0
              · have hm : (mod == 0) = true := by simpa using h0
                have HM : Hid (sameM mod xs[k].2 ys[k].2 = true) := by show _ = _; rw [sameM, if_pos h0]
                rw [HM.out] at HN
                clear h0
                go_quiet (fail)
                go_wp2
                go_roundg (gk - 1)
                case measure => omega
                case rel => exact ⟨k + 1, by omega, by go_num, HW.out.drewN _, by rw [HN.out]; rfl⟩
              · have hm : (mod == 0) = false := by simpa using h0
                have HM : Hid (sameM mod xs[k].2 ys[k].2 = (xs[k].2.tmod mod == ys[k].2.tmod mod)) := by show _ = _; rw [sameM, if_neg h0]
                rw [HM.out] at HN
                cases hr : (xs[k].2.tmod mod == ys[k].2.tmod mod) with
                | false =>
                  rw [hr] at HN
                  go_quiet (fail)
                  go_wp2
                  go_roundg (gk - 1)
                  case measure => omega
                  case rel => exact ⟨k + 1, by omega, by go_num, HW.out.drewN _, by rw [HN.out]; rfl⟩
                | true =>
                  rw [hr] at HN
                  go_quiet (fail)
                  go_wp2
                  go_roundg (gk - 1)
                  case measure => omega
                  case rel => exact ⟨k + 1, by omega, by go_num, HW.out.drewN _, by rw [HN.out]; rfl⟩
        · have HN := hid0 (alike_end mod xs ys k (by omega))
          clear hK
          go_wp2_with fail
          refine (HE.out _ (G4.out.2.1.ext HK.out) (G4.out.2.2.1.ext HK.out)).mono ?_
          rintro e W9 ⟨rfl, g9⟩
          rw [← HN.out]
          have H9 := hid0 ((G4.out.1.trans HK.out).trans g9)
          clear g9
          cases alike mod xs ys k
          · go_wp2
            go_ret
            exact ⟨rfl, H9.out⟩
          · go_wp2
            go_ret
            exact ⟨rfl, H9.out⟩

end Go.Proofs.Ytlmbgkgnbebkiaa
