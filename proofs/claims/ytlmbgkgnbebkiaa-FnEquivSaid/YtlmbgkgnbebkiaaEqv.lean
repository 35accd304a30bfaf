/- node.equiv, T.Equiv, impl.same, impl.Equiv. -/
import Derived.Test.YtlmbgkgnbebkiaaEq3
namespace Go.Proofs.Ytlmbgkgnbebkiaa
open Go.RowKit

/-- whether data have the same rest -/
def sameM (mod d e : Int) : Bool := if mod = 0 then true else d.tmod mod == e.tmod mod
theorem sameM_refl (mod d : Int) : sameM mod d d = true := by unfold sameM; split <;> simp
def eqvL (mod : Int) : List (Int × Int) → List (Int × Int) → Bool
  | [], [] => true
  | p :: ps, q :: qs => (p.1 == q.1 && sameM mod p.2 q.2) && eqvL mod ps qs
  | _, _ => false
theorem eqvL_refl (mod : Int) : ∀ xs, eqvL mod xs xs = true
  | [] => rfl
  | p :: ps => by rw [eqvL, sameM_refl, eqvL_refl mod ps]; simp
theorem eqvL_len {mod : Int} : ∀ {xs ys : List (Int × Int)}, ¬ xs.length = ys.length → eqvL mod xs ys = false
  | [], [], h => absurd rfl h
  | [], _ :: _, _ => rfl
  | _ :: _, [], _ => rfl
  | p :: ps, q :: qs, h => by rw [eqvL, eqvL_len (xs := ps) (ys := qs) (by simpa using h)]; simp
structure MdAt (w : World) (cb : Nat) (mod : Int) : Prop where
  blk : w.heap[cb]? = some (.cells #[.int .i64 mod] 3 (0, 0))
theorem MdAt.ext {w w' : World} {cb : Nat} {mod : Int} (h : MdAt w cb mod) (hk : Kept Non w w') : MdAt w' cb mod := ⟨(hk.block _ (block_lt h.blk) (fun h => h)).trans h.blk⟩
set_option maxRecDepth 100000 in
theorem same1_any (w : World) (cb : Nat) (mod : Int) (h : MdAt w cb mod) (d e : Int) : Calls Try.prog 88 #[.iface 3 (.int .i64 d), .iface 3 (.int .i64 e), .pointer (some ⟨cb, 0, none⟩)] w (fun r w' => r = .returned (.bool (sameM mod d e)) ∧ Kept Non w w') := by
  have hb := h.blk
  have c0 : w.cell? ⟨cb, 0, none⟩ = some (.int .i64 mod) := by rw [cell_of hb]; rfl
  have ha := assert_int
  clear h hb
  by_cases h0 : mod = 0
  · have hq : (mod == 0) = true := by simpa using h0
    have H0 := hid0 h0
    clear h0
    go_enter Try.func88, Try.ntmps88
    go_wp2
    go_ret
    exact ⟨by rw [sameM, if_pos H0.out]; rfl, Kept.refl _ _⟩
  · have hq : (mod == 0) = false := by simpa using h0
    have H0 := hid0 h0
    go_enter Try.func88, Try.ntmps88
    go_wp2_with fail
    go_quiet (fail)
    go_wp2
    go_ret
    exact ⟨by rw [sameM, if_neg H0.out]; rfl, (Kept.refl _ w).drewN _⟩
theorem same_any (w : World) (mod : Int) : Calls Try.prog 62 #[.int .i64 mod] w (fun r w' => ∃ cb, r = .returned (.func (.func 88) #[] #[.pointer (some ⟨cb, 0, none⟩)]) ∧ MdAt w' cb mod ∧ Kept Non w w') := by
  go_enter Try.func62, Try.ntmps62
  go_wp2
  go_ret
  exact ⟨_, rfl, ⟨alloc_new _ _⟩, (Kept.refl _ _).alloc _⟩

set_option maxRecDepth 100000 in
theorem equiv_any (w : World) (A B : Tr) (xs ys : List (Int × Int)) (hA : GoodT w A xs) (hB : GoodT w B ys) (cb : Nat) (mod : Int) (hM : MdAt w cb mod) : Calls Try.prog 87 #[A.ptr, B.ptr, .func (.func 88) #[] #[.pointer (some ⟨cb, 0, none⟩)]] w (EqPost w (eqvL mod xs ys)) := by
  have HM := hid0 hM
  clear hM
  obtain ⟨ua, fa⟩ := ptr_form A
  obtain ⟨ub, fb⟩ := ptr_form B
  by_cases hp : A.ptr = B.ptr
  · have hq := run_eq_tr hA.inn hB.inn hp fa fb
    rw [hA.same hB hp, eqvL_refl]
    rw [fa, fb]
    clear hA hB hp
    go_enter Try.func87, Try.ntmps87
    go_wp2
    go_ret
    exact ⟨rfl, Kept.refl _ _⟩
  have hq := run_neq_tr hA.inn hB.inn hp fa fb
  have HI5 := hid0 (iterator_any w A hA.tree1 hA.bnd)
  have HI6 := hid0 (fun W (hK : Kept Non w W) => iterator_any W B (hB.ext hK).tree1 (hB.ext hK).bnd)
  have HL := hid0 (And.intro hA.lst hB.lst)
  rw [fa, fb]
  rw [fa] at HI5
  rw [fb] at HI6
  obtain ⟨R, hR⟩ : ∃ R, R = eqvL mod xs ys := ⟨_, rfl⟩
  rw [← hR]
  have HR := hid0 hR
  clear hA hB hp hR
  go_enter Try.func87, Try.ntmps87
  go_wp2_with fail
  refine HI5.out.mono ?_
  rintro e w1 ⟨v5, g5, st5, rfl, i1, i2, i3, i4, i5, i6⟩
  obtain ⟨a5, n5, c5, rfl⟩ := i3.form
  have HJ5 := hid0 (And.intro i1 (And.intro i2 (And.intro i3 (And.intro i4 (And.intro i5 i6)))))
  clear i1 i2 i3 i4 i5 i6 HI5 hq
  go_wp2_with fail
  refine (HI6.out w1 HJ5.out.2.2.2.2.2).mono ?_
  rintro e w2 ⟨v6, g6, st6, rfl, i1, i2, i3, i4, i5, i6⟩
  obtain ⟨a6, n6, c6, rfl⟩ := i3.form
  have HJ6 := hid0 (And.intro i1 (And.intro i2 (And.intro i3 (And.intro i4 (And.intro i5 i6)))))
  clear i1 i2 i3 i4 i5 i6 HI6
  go_wp2
  go_loopg [9] (xs.length) (fun n _ wr => ∃ (s5 s6 : List Fr) (ps qs : List (Int × Int)), n = ps.length ∧ R = eqvL mod ps qs ∧ rest s5 = ps.map en ∧ rest s6 = qs.map en ∧ Good s5 ∧ Good s6 ∧ ItX wr w2.heap.size g5 s5 ∧ ItX wr (w2.heap.size + 1) g6 s6 ∧ Kept Non w wr)
  case atStart =>
    obtain ⟨i1, i2, i3, i4, i5, i6⟩ := HJ5.out
    obtain ⟨j1, j2, j3, j4, j5, j6⟩ := HJ6.out
    have hsz := j6.size
    have hk : Kept Non w2 ((w2.alloc (.cells #[.slice a5 n5 c5] 76)).alloc (.cells #[.slice a6 n6 c6] 76)) := ((Kept.refl _ _).alloc _).alloc _
    refine ⟨st5, st6, xs, ys, rfl, HR.out, i5.trans HL.out.1, j5.trans HL.out.2, i4, j4, ?_, ?_, (i6.trans j6).trans hk⟩
    · refine RowV.it (ty := 76) (i3.ext (j6.trans hk) (fun h => h) (fun _ _ _ _ h => h)) ?_ (by omega)
      rw [alloc_old _ (by simp)]
      exact alloc_new _ _
    · refine RowV.it (ty := 76) (j3.ext hk (fun h => h) (fun _ _ _ _ h => h)) ?_ (by omega)
      have := alloc_new (w2.alloc (.cells #[.slice a5 n5 c5] 76)) (.cells #[.slice a6 n6 c6] 76)
      simpa using this
  case round =>
    obtain ⟨s5, s6, ps, qs, rfl, hR, r5, r6, q5, q6, x5, x6, hK⟩ := hrel
    have hd := And.intro HJ5.out.2.1 (And.intro HJ6.out.1 HJ6.out.2.1)
    have hd2 := HJ6.out.2.2.2.2.2.size
    have hd0 := And.intro HJ5.out.1 HJ5.out.2.2.2.2.2.size
    have HX := hid0 (And.intro hR (And.intro r5 (And.intro r6 (And.intro q5 (And.intro q6 (And.intro x5 (And.intro x6 hK)))))))
    have d5 := hid0 (done_any wr w2.heap.size g5 s5 x5 q5)
    have d6 := hid0 (done_any wr (w2.heap.size + 1) g6 s6 x6 q6)
    rw [r5] at d5
    rw [r6] at d6
    clear hR r5 r6 q5 q6 x5 x6 hK
    cases ps with
    | nil =>
      go_wp2_with fail
      refine d5.out.mono ?_
      rintro e w' ⟨rfl, hw⟩
      rw [hw]
      clear hw
      simp only [List.map_nil, List.isEmpty_nil]
      go_wp2_with fail
      refine d5.out.mono ?_
      rintro e w' ⟨rfl, hw⟩
      rw [hw]
      clear hw
      go_wp2_with fail
      refine d6.out.mono ?_
      rintro e w' ⟨rfl, hw⟩
      rw [hw]
      clear hw
      obtain ⟨c, hc⟩ : ∃ c, c = (qs.map en).isEmpty := ⟨_, rfl⟩
      rw [← hc]
      have HC := hid0 hc
      clear hc
      go_wp2
      go_ret
      obtain ⟨hR, _, _, _, _, _, _, hK⟩ := HX.out
      refine ⟨?_, hK⟩
      rw [hR, HC.out]
      cases qs <;> rfl
    | cons p ps =>
      cases qs with
      | nil =>
        simp only [List.map_nil, List.isEmpty_nil, List.map_cons, List.isEmpty_cons] at d5 d6
        go_wp2_with fail
        refine d5.out.mono ?_
        rintro e w' ⟨rfl, hw⟩
        rw [hw]
        clear hw
        go_wp2_with fail
        refine d6.out.mono ?_
        rintro e w' ⟨rfl, hw⟩
        rw [hw]
        clear hw
        go_wp2_with fail
        refine d5.out.mono ?_
        rintro e w' ⟨rfl, hw⟩
        rw [hw]
        clear hw
        go_wp2_with fail
        refine d6.out.mono ?_
        rintro e w' ⟨rfl, hw⟩
        rw [hw]
        clear hw
        go_wp2
        go_ret
        obtain ⟨hR, _, _, _, _, _, _, hK⟩ := HX.out
        refine ⟨?_, hK⟩
        rw [hR]
        rfl
      | cons q qs =>
        simp only [List.map_cons, List.isEmpty_cons] at d5 d6
        go_wp2_with fail
        refine d5.out.mono ?_
        rintro e w' ⟨rfl, hw⟩
        rw [hw]
        clear hw
        go_wp2_with fail
        refine d6.out.mono ?_
        rintro e w' ⟨rfl, hw⟩
        rw [hw]
        clear hw d5 d6
        go_wp2_with fail
        obtain ⟨hR, r5, r6, q5, q6, x5, x6, hK⟩ := HX.out
        refine (nextX_any wr w2.heap.size g5 s5 x5 q5 p (ps.map en) r5).mono ?_
        rintro e w3 ⟨b, bl, br, bh, rfl, n1, n2, n3, n4, n5, n6, n7⟩
        have y6 : ItX w3 (w2.heap.size + 1) g6 s6 := x6.ext n1 (fun e => by rcases e with e | e <;> omega) (fun e => by rcases e with e | e <;> omega) (fun T hT c hc => by obtain ⟨l, r, d, k, h, ho⟩ := hT.obj hc; exact n7 _ _ _ _ _ _ ho)
        have HN := hid0 (And.intro n1 (And.intro n2 (And.intro n3 y6)))
        clear n1 n2 n3 n4 n5 n6 n7 y6 hR r5 r6 q5 q6 x5 x6 hK
        go_wp2_with fail
        obtain ⟨hR, r5, r6, q5, q6, x5, x6, hK⟩ := HX.out
        obtain ⟨n1, ⟨s5', x5', q5', r5'⟩, n3, y6⟩ := HN.out
        refine (nextX_any w3 (w2.heap.size + 1) g6 s6 y6 q6 q (qs.map en) r6).mono ?_
        rintro e w4 ⟨c, cl, cr, ch, rfl, m1, ⟨s6', x6', q6', r6'⟩, m3, m4, m5, m6, m7⟩
        have hb4 : w4.heap[b]? = some (nodeObj bl br (.iface 3 (.int .i64 p.2)) p.1 bh) := (m1.block b (block_lt n3) (m7 _ _ _ _ _ _ n3)).trans n3
        have x5'' : ItX w4 w2.heap.size g5 s5' := x5'.ext m1 (fun e => by rcases e with e | e <;> omega) (fun e => by rcases e with e | e <;> omega) (fun T hT c hc => by obtain ⟨l, r, d, k, h, ho⟩ := hT.obj hc; exact m7 _ _ _ _ _ _ ho)
        have hK4 : Kept Non w w4 := (hK.trans' n1 (fun i hi e => by rcases e with e | e <;> omega)).trans' m1 (fun i hi e => by rcases e with e | e <;> omega)
        have hgo : (p.1 = q.1 ∧ sameM mod p.2 q.2 = true) → ∀ W, Kept Non w4 W → ∃ (s5 s6 : List Fr) (ps' qs' : List (Int × Int)), ps.length = ps'.length ∧ R = eqvL mod ps' qs' ∧ rest s5 = ps'.map en ∧ rest s6 = qs'.map en ∧ Good s5 ∧ Good s6 ∧ ItX W w2.heap.size g5 s5 ∧ ItX W (w2.heap.size + 1) g6 s6 ∧ Kept Non w W := fun e W hW => ⟨s5', s6', ps, qs, rfl, by rw [hR, eqvL, e.1, e.2]; simp, r5', r6', q5', q6', x5''.ext hW (fun h => h) (fun h => h) (fun _ _ _ _ h => h), x6'.ext hW (fun h => h) (fun h => h) (fun _ _ _ _ h => h), hK4.trans hW⟩
        have hno : ¬ (p.1 = q.1 ∧ sameM mod p.2 q.2 = true) → R = false := fun e => by
          rw [hR, eqvL]
          by_cases h1 : p.1 = q.1
          · have h2 : sameM mod p.2 q.2 = false := by
              cases h3 : sameM mod p.2 q.2 with
              | false => rfl
              | true => exact absurd ⟨h1, h3⟩ e
            simp [h2]
          · simp [h1]
        have hbc0 : b = c → (p.1 = q.1 ∧ sameM mod p.2 q.2 = true) := fun e => by
          subst e
          rw [hb4] at m3
          simp only [nodeObj, Option.some.injEq, Obj.cells.injEq, List.toArray_eq_iff, List.cons.injEq] at m3
          simp at m3
          exact ⟨m3.2.2.2.1, by rw [m3.2.2.1]; exact sameM_refl _ _⟩
        have hq := run_eql_ptr hb4 m3
        obtain ⟨t0, t1, t2, t3, t4, tf⟩ := nodeAt hb4
        obtain ⟨u0, u1, u2, u3, u4, uf⟩ := nodeAt m3
        have HF := hid0 (And.intro hgo (And.intro hno (And.intro hbc0 hK4)))
        clear hgo hno hbc0 hK4 hb4 m1 m3 m4 m5 m6 m7 n1 n3 y6 x5'' x6' x5' q5' q6' r5' r6' hR r5 r6 q5 q6 x5 x6 hK HN HX t0 t1 t4 tf u0 u1 u4 uf hd hd2 hd0
        by_cases hbc : b = c
        · rw [decide_eq_true hbc] at hq
          have HBC := hid0 hbc
          clear hbc t2 t3 u2 u3
          go_wp2
          go_roundg (ps.length)
          case measure => simp
          case rel => exact HF.out.1 (HF.out.2.2.1 HBC.out) _ (Kept.refl _ _)
        · rw [decide_eq_false hbc] at hq
          clear hbc
          go_wp2_with fail
          by_cases hk1 : p.1 = q.1
          · have hk2 : (p.1 == q.1) = true := by simpa using hk1
            have HK1 := hid0 hk1
            clear hk1
            go_region
            go_wp2_with fail
            refine wp_gen (fun W => W.cell? ⟨b, 2, none⟩ = some (.iface 3 (.int .i64 p.2)) ∧ W.cell? ⟨c, 2, none⟩ = some (.iface 3 (.int .i64 q.2)) ∧ Kept Non w4 W) ⟨t2, u2, (Kept.refl _ _).drew⟩ ?_
            clear t2 u2 t3 u3
            rintro W ⟨t2, u2, hW⟩
            have HWW := hid0 hW
            clear hW
            refine wp_region_still_tail 9 (by kernel_rfl) (by kernel_rfl) ?_
            simp only [List.take_succ_cons, List.take_zero, List.drop_succ_cons, List.drop_zero]
            iterate 9 still_step
            refine wpStill_nil ?_
            go_wp2_with fail
            refine (same1_any _ cb mod (HM.out.ext ((HF.out.2.2.2.trans HWW.out).drew)) p.2 q.2).mono ?_
            rintro e w5 ⟨rfl, g5⟩
            cases hs : sameM mod p.2 q.2 with
            | true =>
              have H5 := hid0 (And.intro g5 hs)
              clear g5 hs
              go_wp2
              go_roundg (ps.length)
              case measure => simp
              case rel => exact HF.out.1 ⟨HK1.out, H5.out.2⟩ _ ((HWW.out.drew).trans H5.out.1)
            | false =>
              have H5 := hid0 (And.intro g5 hs)
              clear g5 hs
              go_wp2
              go_ret
              exact ⟨by rw [HF.out.2.1 (fun h => by rw [H5.out.2] at h; cases h.2)]; rfl, ((HF.out.2.2.2.trans HWW.out).drew).trans H5.out.1⟩
          · have hk2 : (p.1 == q.1) = false := by simpa using hk1
            have HK1 := hid0 hk1
            clear hk1
            go_region
            go_wp2
            go_ret
            exact ⟨by rw [HF.out.2.1 (fun e => HK1.out e.1)]; rfl, HF.out.2.2.2.drew⟩


set_option maxRecDepth 100000 in
theorem TEquiv_any (w : World) (b c : Nat) (xs ys : List (Int × Int)) (h : Head w b xs) (h' : Head w c ys) (cb : Nat) (mod : Int) (hM : MdAt w cb mod) :
    Calls Try.prog 61 #[.pointer (some ⟨b, 0, none⟩), .pointer (some ⟨c, 0, none⟩), .func (.func 88) #[] #[.pointer (some ⟨cb, 0, none⟩)]] w (EqPost w (eqvL mod xs ys)) := by
  have HM := hid0 hM
  clear hM
  obtain ⟨A, a1, a2⟩ := h.ex
  obtain ⟨B, b1, b2⟩ := h'.ex
  have hq := run_eql_T a1 b1
  by_cases e : b = c
  · rw [decide_eq_true e] at hq
    subst e
    rw [h.same h', eqvL_refl]
    clear h h' a1 a2 b1 b2
    go_enter Try.func61, Try.ntmps61
    go_wp2
    go_ret
    exact ⟨rfl, Kept.refl _ _⟩
  rw [decide_eq_false e] at hq
  have h1 := hid0 (TSize_any w b 0 xs h.at)
  have h2 := hid0 (TSize_any w c 0 ys h'.at)
  have HE := hid0 (fun W (hK : Kept Non w W) => equiv_any W A B xs ys (a2.ext hK) (b2.ext hK) cb mod (HM.out.ext hK))
  have c0 : w.cell? ⟨b, 0, none⟩ = some A.ptr := by unfold tObj at a1; rw [cell_of a1]; rfl
  have d0 : w.cell? ⟨c, 0, none⟩ = some B.ptr := by unfold tObj at b1; rw [cell_of b1]; rfl
  obtain ⟨ua, fa⟩ := ptr_form A
  obtain ⟨ub, fb⟩ := ptr_form B
  rw [fa] at c0 HE
  rw [fb] at d0 HE
  obtain ⟨R, hR⟩ : ∃ R, R = eqvL mod xs ys := ⟨_, rfl⟩
  rw [← hR] at HE ⊢
  have HR := hid0 hR
  clear h h' a1 a2 b1 b2 e hR
  by_cases hl : xs.length = ys.length
  · have hlb : ((xs.length : Int) != (ys.length : Int)) = false := by simp [hl]
    clear hl
    go_enter Try.func61, Try.ntmps61
    go_wp2_with fail
    refine h1.out.mono ?_
    rintro e w' ⟨rfl, hw⟩
    rw [← hw]
    clear hw
    go_wp2_with fail
    refine h2.out.mono ?_
    rintro e w' ⟨rfl, hw⟩
    rw [← hw]
    clear hw
    go_wp2_with fail
    refine wp_region_still_tail 9 (by kernel_rfl) (by kernel_rfl) ?_
    simp only [List.take_succ_cons, List.take_zero, List.drop_succ_cons, List.drop_zero]
    iterate 9 still_step
    refine wpStill_nil ?_
    go_wp2_with fail
    refine (HE.out _ (Kept.refl _ _).drew).mono ?_
    rintro e w1 ⟨rfl, g1⟩
    have HG := hid0 (((Kept.refl _ w).drew).trans g1)
    clear g1
    go_wp2
    go_ret
    exact ⟨rfl, HG.out⟩
  · have hlb : ((xs.length : Int) != (ys.length : Int)) = true := by simp; omega
    have hf : R = false := by rw [HR.out]; exact eqvL_len hl
    rw [hf]
    clear hl hf HR HE
    go_enter Try.func61, Try.ntmps61
    go_wp2_with fail
    refine h1.out.mono ?_
    rintro e w' ⟨rfl, hw⟩
    rw [← hw]
    clear hw
    go_wp2_with fail
    refine h2.out.mono ?_
    rintro e w' ⟨rfl, hw⟩
    rw [← hw]
    clear hw
    go_wp2
    go_ret
    exact ⟨rfl, Kept.refl _ _⟩


theorem Equiv_any (w : World) (v u : Value) (ps qs : List (Int × Int)) (mod : Int) (h : SlP w v ps) (h' : SlP w u qs) (hl : ps.length ≤ 8796093022208) (hl' : qs.length ≤ 8796093022208) (hok : KeysOk ps) (hok' : KeysOk qs) :
    Calls Try.prog 28 #[v, u, .int .i64 mod] w (EqPost w (eqvL mod (treeP ps) (treeP qs))) := by
  have HT := hid0 (tree_any w v ps h hl hok)
  have HU := hid0 (fun W (hK : Kept Non w W) => tree_any W u qs (h'.ext hK) hl' hok')
  clear h hok h' hok'
  go_enter Try.func28, Try.ntmps28
  go_wp2_with fail
  refine HT.out.mono ?_
  rintro e w1 ⟨b, rfl, _, g1, g2⟩
  have HG := hid0 (And.intro g1 g2)
  clear g1 g2
  go_wp2_with fail
  refine (HU.out _ HG.out.2).mono ?_
  rintro e w2 ⟨c, rfl, _, g1, g2⟩
  have HG2 := hid0 (And.intro (HG.out.1.ext g2) (And.intro g1 (HG.out.2.trans g2)))
  clear g1 g2
  go_wp2_with fail
  refine (same_any _ mod).mono ?_
  rintro e w2b ⟨cb, rfl, hM, gM⟩
  have HM := hid0 (And.intro hM gM)
  clear hM gM
  go_wp2_with fail
  refine (TEquiv_any _ b c _ _ (HG2.out.1.ext HM.out.2) (HG2.out.2.1.ext HM.out.2) cb mod HM.out.1).mono ?_
  rintro e w3 ⟨rfl, g1⟩
  have HG3 := hid0 ((HG2.out.2.2.trans HM.out.2).trans g1)
  clear g1
  go_wp2
  go_ret
  exact ⟨rfl, HG3.out⟩


end Go.Proofs.Ytlmbgkgnbebkiaa
