/- node.equals, T.Equals. -/
import Derived.Test.YtlmbgkgnbebkiaaEq1
import Derived.Test.YtlmbgkgnbebkiaaIt5
namespace Go.Proofs.Ytlmbgkgnbebkiaa
open Go.RowKit

/-- next, of an iterator in its variable -/
theorem nextX_any (w : World) (ib g : Nat) (st : List Fr) (h : ItX w ib g st) (hg : Good st) (p : Int × Int) (xs : List (Int × Value)) (hr : rest st = en p :: xs) :
    Calls Try.prog 79 #[.pointer (some ⟨ib, 0, none⟩)] w (fun e w' => ∃ b l r hh, e = .returned (.pointer (some ⟨b, 0, none⟩)) ∧ Kept (Two ib g) w w' ∧ (∃ st', ItX w' ib g st' ∧ Good st' ∧ rest st' = xs) ∧ w'.heap[b]? = some (nodeObj l r (.iface 3 (.int .i64 p.2)) p.1 hh) ∧ b ≠ ib ∧ b ≠ g ∧ b < w.heap.size ∧
      (∀ c l r d k h, w.heap[c]? = some (nodeObj l r d k h) → ¬ Two ib g c)) := by
  rcases h with ⟨_, rfl⟩ | ⟨cap, h⟩
  · cases hr
  refine (next_any w ib g cap st h hg _ xs hr).mono ?_
  rintro e w1 ⟨b, l, r, hh, ⟨rfl, n2, st', n3, n4, n5⟩, hb, _⟩
  have hall : ∀ c l r d k h, w.heap[c]? = some (nodeObj l r d k h) → ¬ Two ib g c := fun c l r d k hh hc e => by
    obtain ⟨ty, h1⟩ := h.hdr
    obtain ⟨cur, h2, _⟩ := h.rowB
    rcases e with rfl | rfl
    · rw [h1] at hc; simp [nodeObj] at hc
    · rw [h2] at hc; simp [nodeObj] at hc
  have hn : ¬ Two ib g b := hall _ _ _ _ _ _ hb
  exact ⟨b, l, r, hh, rfl, n2, ⟨st', .inr ⟨cap, n3⟩, n4, n5⟩, (n2.block b (block_lt hb) hn).trans hb, fun e => hn (.inl e), fun e => hn (.inr e), block_lt hb, hall⟩

def EqPost (w : World) (c : Bool) (e : Ending) (w' : World) : Prop := e = .returned (.bool c) ∧ Kept Non w w'
theorem GoodT.same {w : World} {A B : Tr} {xs ys : List (Int × Int)} (hA : GoodT w A xs) (hB : GoodT w B ys) (h : A.ptr = B.ptr) : xs = ys := by
  obtain rfl := In.inj hA.inn hB.inn h
  exact map_en_inj (hA.lst.symm.trans hB.lst)

set_option maxRecDepth 100000 in
theorem equals_any (w : World) (A B : Tr) (xs ys : List (Int × Int)) (hA : GoodT w A xs) (hB : GoodT w B ys) : Calls Try.prog 77 #[A.ptr, B.ptr] w (EqPost w (decide (xs = ys))) := by
  obtain ⟨ua, fa⟩ := ptr_form A
  obtain ⟨ub, fb⟩ := ptr_form B
  by_cases hp : A.ptr = B.ptr
  · have hq := run_eq_tr hA.inn hB.inn hp fa fb
    rw [decide_eq_true (hA.same hB hp)]
    rw [fa, fb]
    clear hA hB hp
    go_enter Try.func77, Try.ntmps77
    go_wp2
    go_ret
    exact ⟨rfl, Kept.refl _ _⟩
  have hq := run_neq_tr hA.inn hB.inn hp fa fb
  have HI5 := hid0 (iterator_any w A hA.tree1 hA.bnd)
  have HI6 := hid0 (fun W (hK : Kept Non w W) => iterator_any W B (hB.ext hK).tree1 (hB.ext hK).bnd)
  have HL := hid0 (And.intro hA.lst hB.lst)
  rw [fa, fb]
  rw [fa] at HI5
  rw [fb] at HI6
  obtain ⟨R, hR⟩ : ∃ R, R = decide (xs = ys) := ⟨_, rfl⟩
  rw [← hR]
  have HR := hid0 hR
  clear hA hB hp hR
  go_enter Try.func77, Try.ntmps77
  go_wp2_with fail
  refine HI5.out.mono ?_
  rintro e w1 ⟨v5, g5, st5, rfl, i1, i2, i3, i4, i5, i6⟩
  obtain ⟨a5, n5, c5, rfl⟩ := i3.form
  have HJ5 := hid0 (And.intro i1 (And.intro i2 (And.intro i3 (And.intro i4 (And.intro i5 i6)))))
  clear i1 i2 i3 i4 i5 i6 HI5 hq
  go_wp2_with fail
  refine (HI6.out w1 HJ5.out.2.2.2.2.2).mono ?_
  rintro e w2 ⟨v6, g6, st6, rfl, i1, i2, i3, i4, i5, i6⟩
  obtain ⟨a6, n6, c6, rfl⟩ := i3.form
  have HJ6 := hid0 (And.intro i1 (And.intro i2 (And.intro i3 (And.intro i4 (And.intro i5 i6)))))
  clear i1 i2 i3 i4 i5 i6 HI6
  go_wp2
  go_loopg [7] (xs.length) (fun n _ wr => ∃ (s5 s6 : List Fr) (ps qs : List (Int × Int)), n = ps.length ∧ R = decide (ps = qs) ∧ rest s5 = ps.map en ∧ rest s6 = qs.map en ∧ Good s5 ∧ Good s6 ∧ ItX wr w2.heap.size g5 s5 ∧ ItX wr (w2.heap.size + 1) g6 s6 ∧ Kept Non w wr)
  case atStart =>
    obtain ⟨i1, i2, i3, i4, i5, i6⟩ := HJ5.out
    obtain ⟨j1, j2, j3, j4, j5, j6⟩ := HJ6.out
    have hsz := j6.size
    have hk : Kept Non w2 ((w2.alloc (.cells #[.slice a5 n5 c5] 76)).alloc (.cells #[.slice a6 n6 c6] 76)) := ((Kept.refl _ _).alloc _).alloc _
    refine ⟨st5, st6, xs, ys, rfl, HR.out, i5.trans HL.out.1, j5.trans HL.out.2, i4, j4, ?_, ?_, (i6.trans j6).trans hk⟩
    · refine RowV.it (ty := 76) (i3.ext (j6.trans hk) (fun h => h) (fun _ _ _ _ h => h)) ?_ (by omega)
      rw [alloc_old _ (by simp)]
      exact alloc_new _ _
    · refine RowV.it (ty := 76) (j3.ext hk (fun h => h) (fun _ _ _ _ h => h)) ?_ (by omega)
      have := alloc_new (w2.alloc (.cells #[.slice a5 n5 c5] 76)) (.cells #[.slice a6 n6 c6] 76)
      simpa using this
  case round =>
    obtain ⟨s5, s6, ps, qs, rfl, hR, r5, r6, q5, q6, x5, x6, hK⟩ := hrel
    have hd := And.intro HJ5.out.2.1 (And.intro HJ6.out.1 HJ6.out.2.1)
    have hd2 := HJ6.out.2.2.2.2.2.size
    have hd0 := And.intro HJ5.out.1 HJ5.out.2.2.2.2.2.size
    have HX := hid0 (And.intro hR (And.intro r5 (And.intro r6 (And.intro q5 (And.intro q6 (And.intro x5 (And.intro x6 hK)))))))
    have d5 := hid0 (done_any wr w2.heap.size g5 s5 x5 q5)
    have d6 := hid0 (done_any wr (w2.heap.size + 1) g6 s6 x6 q6)
    rw [r5] at d5
    rw [r6] at d6
    clear hR r5 r6 q5 q6 x5 x6 hK
    cases ps with
    | nil =>
      go_wp2_with fail
      refine d5.out.mono ?_
      rintro e w' ⟨rfl, hw⟩
      rw [hw]
      clear hw
      simp only [List.map_nil, List.isEmpty_nil]
      go_wp2_with fail
      refine d5.out.mono ?_
      rintro e w' ⟨rfl, hw⟩
      rw [hw]
      clear hw
      go_wp2_with fail
      refine d6.out.mono ?_
      rintro e w' ⟨rfl, hw⟩
      rw [hw]
      clear hw
      obtain ⟨c, hc⟩ : ∃ c, c = (qs.map en).isEmpty := ⟨_, rfl⟩
      rw [← hc]
      have HC := hid0 hc
      clear hc
      go_wp2
      go_ret
      obtain ⟨hR, _, _, _, _, _, _, hK⟩ := HX.out
      refine ⟨?_, hK⟩
      rw [hR, HC.out]
      cases qs <;> rfl
    | cons p ps =>
      cases qs with
      | nil =>
        simp only [List.map_nil, List.isEmpty_nil, List.map_cons, List.isEmpty_cons] at d5 d6
        go_wp2_with fail
        refine d5.out.mono ?_
        rintro e w' ⟨rfl, hw⟩
        rw [hw]
        clear hw
        go_wp2_with fail
        refine d6.out.mono ?_
        rintro e w' ⟨rfl, hw⟩
        rw [hw]
        clear hw
        go_wp2_with fail
        refine d5.out.mono ?_
        rintro e w' ⟨rfl, hw⟩
        rw [hw]
        clear hw
        go_wp2_with fail
        refine d6.out.mono ?_
        rintro e w' ⟨rfl, hw⟩
        rw [hw]
        clear hw
        go_wp2
        go_ret
        obtain ⟨hR, _, _, _, _, _, _, hK⟩ := HX.out
        refine ⟨?_, hK⟩
        rw [hR]
        rfl
      | cons q qs =>
        simp only [List.map_cons, List.isEmpty_cons] at d5 d6
        go_wp2_with fail
        refine d5.out.mono ?_
        rintro e w' ⟨rfl, hw⟩
        rw [hw]
        clear hw
        go_wp2_with fail
        refine d6.out.mono ?_
        rintro e w' ⟨rfl, hw⟩
        rw [hw]
        clear hw d5 d6
        go_wp2_with fail
        obtain ⟨hR, r5, r6, q5, q6, x5, x6, hK⟩ := HX.out
        refine (nextX_any wr w2.heap.size g5 s5 x5 q5 p (ps.map en) r5).mono ?_
        rintro e w3 ⟨b, bl, br, bh, rfl, n1, n2, n3, n4, n5, n6, n7⟩
        have y6 : ItX w3 (w2.heap.size + 1) g6 s6 := x6.ext n1 (fun e => by rcases e with e | e <;> omega) (fun e => by rcases e with e | e <;> omega) (fun T hT c hc => by obtain ⟨l, r, d, k, h, ho⟩ := hT.obj hc; exact n7 _ _ _ _ _ _ ho)
        have HN := hid0 (And.intro n1 (And.intro n2 (And.intro n3 y6)))
        clear n1 n2 n3 n4 n5 n6 n7 y6 hR r5 r6 q5 q6 x5 x6 hK
        go_wp2_with fail
        obtain ⟨hR, r5, r6, q5, q6, x5, x6, hK⟩ := HX.out
        obtain ⟨n1, ⟨s5', x5', q5', r5'⟩, n3, y6⟩ := HN.out
        refine (nextX_any w3 (w2.heap.size + 1) g6 s6 y6 q6 q (qs.map en) r6).mono ?_
        rintro e w4 ⟨c, cl, cr, ch, rfl, m1, ⟨s6', x6', q6', r6'⟩, m3, m4, m5, m6, m7⟩
        have hb4 : w4.heap[b]? = some (nodeObj bl br (.iface 3 (.int .i64 p.2)) p.1 bh) := (m1.block b (block_lt n3) (m7 _ _ _ _ _ _ n3)).trans n3
        have x5'' : ItX w4 w2.heap.size g5 s5' := x5'.ext m1 (fun e => by rcases e with e | e <;> omega) (fun e => by rcases e with e | e <;> omega) (fun T hT c hc => by obtain ⟨l, r, d, k, h, ho⟩ := hT.obj hc; exact m7 _ _ _ _ _ _ ho)
        have hK4 : Kept Non w w4 := (hK.trans' n1 (fun i hi e => by rcases e with e | e <;> omega)).trans' m1 (fun i hi e => by rcases e with e | e <;> omega)
        have hgo : p = q → ∀ W, Kept Non w4 W → ∃ (s5 s6 : List Fr) (ps' qs' : List (Int × Int)), ps.length = ps'.length ∧ R = decide (ps' = qs') ∧ rest s5 = ps'.map en ∧ rest s6 = qs'.map en ∧ Good s5 ∧ Good s6 ∧ ItX W w2.heap.size g5 s5 ∧ ItX W (w2.heap.size + 1) g6 s6 ∧ Kept Non w W := fun e W hW => ⟨s5', s6', ps, qs, rfl, by rw [hR, e]; simp, r5', r6', q5', q6', x5''.ext hW (fun h => h) (fun h => h) (fun _ _ _ _ h => h), x6'.ext hW (fun h => h) (fun h => h) (fun _ _ _ _ h => h), hK4.trans hW⟩
        have hno : p ≠ q → R = false := fun e => by rw [hR]; simp [e]
        have hbc0 : b = c → p = q := fun e => by
          subst e
          rw [hb4] at m3
          simp only [nodeObj, Option.some.injEq, Obj.cells.injEq, List.toArray_eq_iff, List.cons.injEq] at m3
          simp at m3
          exact Prod.ext m3.2.2.2.1 m3.2.2.1
        have hq := run_eql_ptr hb4 m3
        obtain ⟨t0, t1, t2, t3, t4, tf⟩ := nodeAt hb4
        obtain ⟨u0, u1, u2, u3, u4, uf⟩ := nodeAt m3
        have HF := hid0 (And.intro hgo (And.intro hno (And.intro hbc0 hK4)))
        clear hgo hno hbc0 hK4 hb4 m1 m3 m4 m5 m6 m7 n1 n3 y6 x5'' x6' x5' q5' q6' r5' r6' hR r5 r6 q5 q6 x5 x6 hK HN HX t0 t1 t4 tf u0 u1 u4 uf hd hd2 hd0
        by_cases hbc : b = c
        · rw [decide_eq_true hbc] at hq
          have HBC := hid0 hbc
          clear hbc t2 t3 u2 u3
          go_wp2
          go_roundg (ps.length)
          case measure => simp
          case rel => exact HF.out.1 (HF.out.2.2.1 HBC.out) _ (Kept.refl _ _)
        · rw [decide_eq_false hbc] at hq
          clear hbc
          go_wp2_with fail
          by_cases hk1 : p.1 = q.1
          · have hk2 : (p.1 == q.1) = true := by simpa using hk1
            have HK1 := hid0 hk1
            clear hk1
            go_region
            go_wp2_with fail
            by_cases hd1 : p.2 = q.2
            · have hh := neq_held p.2 q.2
              have hd2 : (p.2 == q.2) = true := by simpa using hd1
              rw [hd2] at hh
              have HD1 := hid0 hd1
              clear hd1 hd2
              go_region
              go_wp2
              go_roundg (ps.length)
              case measure => simp
              case rel => exact HF.out.1 (Prod.ext HK1.out HD1.out) _ (Kept.refl _ _).drew.drew
            · have hh := neq_held p.2 q.2
              have hd2 : (p.2 == q.2) = false := by simpa using hd1
              rw [hd2] at hh
              have HD1 := hid0 hd1
              clear hd1 hd2
              go_region
              go_wp2
              go_ret
              exact ⟨by rw [HF.out.2.1 (fun e => HD1.out (by rw [e]))]; rfl, HF.out.2.2.2.drew.drew⟩
          · have hk2 : (p.1 == q.1) = false := by simpa using hk1
            have HK1 := hid0 hk1
            clear hk1
            go_region
            go_wp2
            go_ret
            exact ⟨by rw [HF.out.2.1 (fun e => HK1.out (by rw [e]))]; rfl, HF.out.2.2.2.drew⟩

end Go.Proofs.Ytlmbgkgnbebkiaa
