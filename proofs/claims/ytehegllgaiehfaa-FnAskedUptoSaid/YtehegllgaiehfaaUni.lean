/- T.Union, T.Intersection, T.Difference. -/
import Derived.Test.YtehegllgaiehfaaSt
import Derived.Test.YtehegllgaiehfaaEq1
namespace Go.Proofs.Ytehegllgaiehfaa
open Go.RowKit

theorem neq_nil_held (t : TypeId) (v : Value) (w : World) : (binOp .neq 20 .nilIface (.iface t v)).run Try.prog w = .ok (.bool true) w := by
  have h : ∀ d : Nat, (Op.equalIn (d + 1) 20 .nilIface (.iface t v)).run Try.prog w = .ok false w := fun d => by simp [Op.equalIn, run_underlying und20]
  simp only [binOp]
  simp [Op.equal, Op.maxDepth, h 9999]
theorem neq_nil_nil (w : World) : (binOp .neq 20 .nilIface .nilIface).run Try.prog w = .ok (.bool false) w := by
  have h : ∀ d : Nat, (Op.equalIn (d + 1) 20 .nilIface .nilIface).run Try.prog w = .ok true w := fun d => by simp [Op.equalIn, run_underlying und20]
  simp only [binOp]
  simp [Op.equal, Op.maxDepth, h 9999]
theorem eql_fn_nil (w : World) : (binOp .eql 58 .nilFunc .nilFunc).run Try.prog w = .ok (.bool true) w := by kernel_rfl
theorem eql_fn_held (cb : Nat) (w : World) : (binOp .eql 58 (.func (.func 60) #[] #[.pointer (some ⟨cb, 0, none⟩)]) .nilFunc).run Try.prog w = .ok (.bool false) w := by kernel_rfl
theorem neq_held1 {a d : Int} (h : a = d) (w : World) : (binOp .neq 20 (.iface 3 (.int .i64 a)) (.iface 3 (.int .i64 d))).run Try.prog w = .ok (.bool false) w := by
  rw [neq_held]; simp [h]
theorem neq_held0 {a d : Int} (h : a ≠ d) (w : World) : (binOp .neq 20 (.iface 3 (.int .i64 a)) (.iface 3 (.int .i64 d))).run Try.prog w = .ok (.bool true) w := by
  rw [neq_held]; simp [h]

/-- a tree is returned -/
def RetT (w : World) (zs : Ps) (e : Ending) (w' : World) : Prop := ∃ b, e = .returned (.pointer (some ⟨b, 0, none⟩)) ∧ Head w' b zs ∧ Kept Non w w'
theorem Head.ok {w : World} {b : Nat} {xs : Ps} (h : Head w b xs) : Ok xs := by
  obtain ⟨T, _, h2⟩ := h.ex
  exact h2.ok
theorem walk_step {g : Int → Int → Option (Option Int)} {q : Int × Int} {ps vs Z : Ps} {o : Option (Option Int)} (h : walk g (q :: ps) vs = Z) (he : g q.1 q.2 = o) : walk g ps (doAt o q.1 vs) = Z := by
  subst he; exact h
theorem len0 {xs : Ps} (h : xs.length = 0) : xs = [] := List.length_eq_zero_iff.1 h

set_option maxRecDepth 100000 in
theorem TUnion_x (w : World) (tb ub : Nat) (xs ys : Ps) (ht : Head w tb xs) (hu : Head w ub ys) (f : Value) (o : Option Fun2) (hx : xs.length = 0) (_hy : True) :
    Calls Try.prog 29 #[.pointer (some ⟨tb, 0, none⟩), .pointer (some ⟨ub, 0, none⟩), f] w (RetT w (unionI o xs ys)) := by
  have HX := hid0 (TSize_any w tb 0 xs ht.at)
  have HY := hid0 (TSize_any w ub 0 ys hu.at)
  have HT := hid0 (And.intro ht hu)
  have b1 : ((xs.length : Int) == 0) = true := by simp [hx]
  obtain ⟨Z, hZ⟩ : ∃ Z, unionI o xs ys = Z := ⟨_, rfl⟩
  rw [hZ]
  have HZ := hid0 hZ
  clear ht hu hZ hx 
  go_enter Try.func29, Try.ntmps29
  go_wp2_with fail
  refine HX.out.mono ?_
  rintro e w' ⟨rfl, hw⟩
  rw [← hw]
  clear hw
  go_wp2
  go_ret
  exact ⟨ub, rfl, by rw [← HZ.out, unionI, if_pos (by simpa using b1)]; exact HT.out.2, Kept.refl _ _⟩

set_option maxRecDepth 100000 in
theorem TUnion_y (w : World) (tb ub : Nat) (xs ys : Ps) (ht : Head w tb xs) (hu : Head w ub ys) (f : Value) (o : Option Fun2) (hx : ¬ xs.length = 0) (hy : ys.length = 0) :
    Calls Try.prog 29 #[.pointer (some ⟨tb, 0, none⟩), .pointer (some ⟨ub, 0, none⟩), f] w (RetT w (unionI o xs ys)) := by
  have HX := hid0 (TSize_any w tb 0 xs ht.at)
  have HY := hid0 (TSize_any w ub 0 ys hu.at)
  have HT := hid0 (And.intro ht hu)
  have b1 : ((xs.length : Int) == 0) = false := by simp [hx]
  have b2 : ((ys.length : Int) == 0) = true := by simp [hy]
  obtain ⟨Z, hZ⟩ : ∃ Z, unionI o xs ys = Z := ⟨_, rfl⟩
  rw [hZ]
  have HZ := hid0 hZ
  clear ht hu hZ hx hy
  go_enter Try.func29, Try.ntmps29
  go_wp2_with fail
  refine HX.out.mono ?_
  rintro e w' ⟨rfl, hw⟩
  rw [← hw]
  clear hw
  go_wp2_with fail
  refine HY.out.mono ?_
  rintro e w' ⟨rfl, hw⟩
  rw [← hw]
  clear hw
  go_wp2
  go_ret
  exact ⟨tb, rfl, by rw [← HZ.out, unionI, if_neg (by simpa using b1), if_pos (by simpa using b2)]; exact HT.out.1, Kept.refl _ _⟩

set_option maxRecDepth 100000 in
set_option maxHeartbeats 2000000 in
theorem TUnion_1 (w : World) (tb ub : Nat) (xs ys : Ps) (ht : Head w tb xs) (hu : Head w ub ys) (f : Value) (o : Option Fun2) (hf : FnIs w f o) (hx : ¬ xs.length = 0) (hy : ¬ ys.length = 0) (hle : ys.length ≤ xs.length) :
    Calls Try.prog 29 #[.pointer (some ⟨tb, 0, none⟩), .pointer (some ⟨ub, 0, none⟩), f] w (RetT w (unionI o xs ys)) := by
  have HX := hid0 (TSize_any w tb 0 xs ht.at)
  have HY := hid0 (TSize_any w ub 0 ys hu.at)
  have HT := hid0 (And.intro ht hu)
  have b1 : ((xs.length : Int) == 0) = false := by simp [hx]
  have b2 : ((ys.length : Int) == 0) = false := by simp [hy]
  have HF := hid0 hf
  obtain ⟨Z, hZ⟩ : ∃ Z, unionI o xs ys = Z := ⟨_, rfl⟩
  rw [hZ]
  have hZ' : walk (gU1 o xs) ys xs = Z := by rw [← hZ, unionI]; simp only [hx, hy, hle, if_false, if_true]
  have HZ0 := hid0 hZ'
  have q1 := eql_nil_nil
  have q2 := eql_held_nil
  have q3 := neq_held_nil
  have q4 := neq_nil_held
  have q5 := neq_nil_nil
  have q7 := eql_fn_nil
  have q8 := eql_fn_held
  clear ht hu hZ hZ' hx hy hf
  go_enter Try.func29, Try.ntmps29
  go_wp2_with fail
  refine HX.out.mono ?_
  rintro e w' ⟨rfl, hw⟩
  rw [← hw]
  clear hw
  go_wp2_with fail
  refine HY.out.mono ?_
  rintro e w' ⟨rfl, hw⟩
  rw [← hw]
  clear hw
  go_wp2_with fail
  refine HX.out.mono ?_
  rintro e w' ⟨rfl, hw⟩
  rw [← hw]
  clear hw
  go_wp2_with fail
  refine HY.out.mono ?_
  rintro e w' ⟨rfl, hw⟩
  rw [← hw]
  clear hw
  go_wp2_with fail
  refine (TCopy_any _ tb 0 xs HT.out.1.at).mono ?_
  rintro e w1 ⟨rfl, c1, c2⟩
  have HC := hid0 (And.intro c1 c2)
  clear c1 c2
  go_wp2_with fail
  refine (TIterator_any _ ub 0 ys (HT.out.2.ext HC.out.2).at).mono ?_
  rintro e w2 ⟨v2, g, st, rfl, i1, i2, i3, i4, i5, i6⟩
  obtain ⟨a2, n2, k2, rfl⟩ := i3.form
  have HS0 := hid0 (St.start HC.out.1 (Nat.le_refl _) HC.out.2 i1 i2 i3 i4 i5 i6)
  clear i1 i2 i3 i4 i5 i6 HX HY
  go_wp2
  go_loopg [8] (ys.length) (fun n i wr => ∃ (ib : Nat) (vs ps : Ps), n = ps.length ∧ i = .pointer (some ⟨ib, 0, none⟩) ∧ walk (gU1 o xs) ps vs = Z ∧ (∀ a ∈ ps, -2147483648 < a.1 ∧ a.1 ≤ 2147483647) ∧ St w w.heap.size g wr ib vs ps)
  case atStart => exact ⟨_, _, _, rfl, rfl, HZ0.out, HT.out.2.ok.rng, HS0.out⟩
  case round =>
    obtain ⟨ib, vs, ps, rfl, rfl, hz, hr, hs⟩ := hrel
    have HS := hid0 hs
    cases ps with
    | nil =>
      have HZ := hid0 hz
      clear hz hr hs
      go_wp2_with fail
      refine HS.out.itr.done.mono ?_
      rintro e w' ⟨rfl, hw⟩
      rw [hw]
      clear hw
      go_wp2
      go_ret
      exact ⟨_, rfl, HZ.out ▸ HS.out.head, HS.out.kept⟩
    | cons q ps =>
      have HZ := hid0 (And.intro hz (fun a ha => hr a (List.mem_cons_of_mem _ ha)))
      have HQ := hid0 (hr q (List.mem_cons_self ..))
      clear hz hr hs
      go_wp2_with fail
      refine HS.out.itr.done.mono ?_
      rintro e w' ⟨rfl, hw⟩
      rw [hw]
      clear hw
      simp only [List.isEmpty_cons]
      go_wp2_with fail
      refine HS.out.next.mono ?_
      rintro e wN ⟨rfl, hS2⟩
      have HS2 := hid0 hS2
      clear hS2
      go_wp2_with fail
      refine (HS2.out.find HT.out.1 q.1).mono ?_
      rintro e w' ⟨rfl, hw⟩
      rw [← hw]
      clear hw
      cases hl : look q.1 xs with
      | none =>
        have HL := hid0 hl
        clear hl
        simp only [dv1]
        go_wp2_with fail
        refine (HS2.out.insert q.1 (q.2) HQ.out).mono ?_
        rintro e wI ⟨rfl, hS⟩
        generalize dv (findP q.1 vs) = rv
        obtain ⟨ra, rn, rc, hc, hS'⟩ := hS.round
        have HS' := hid0 hS'
        clear hS hS'
        go_wp2
        go_roundg (ps.length)
        case measure => simp
        case rel => exact ⟨_, _, ps, rfl, rfl, walk_step (o := some (some q.2)) HZ.out.1 (by rw [gU1, HL.out]), HZ.out.2, HS'.out⟩
      | some z =>
        have HL := hid0 hl
        clear hl
        simp only [dv1]
        rcases HF.out with ⟨hfv, ho⟩ | ⟨cb, m, hfv, hm, ho⟩
        · subst hfv
          have HO := hid0 ho
          clear ho

          have hS := HS2.out
          obtain ⟨ra, rn, rc, hc, hS'⟩ := hS.round
          have HS' := hid0 hS'
          clear hS hS'
          go_wp2
          go_roundg (ps.length)
          case measure => simp
          case rel => exact ⟨_, _, ps, rfl, rfl, walk_step (o := none) HZ.out.1 (by rw [gU1, HL.out, HO.out]; rfl), HZ.out.2, HS'.out⟩
        · subst hfv
          have HO := hid0 (And.intro hm ho)
          clear hm ho
          go_wp2_with fail
          refine (call1_any _ cb m (HO.out.1.ext HS2.out.kept) z q.2).mono ?_
          rintro e wC ⟨rfl, gC⟩
          have HS3 := hid0 (HS2.out.ext gC)
          clear gC
          cases hv : mixV m z q.2 with
          | none =>
            have HV := hid0 hv
            clear hv
            simp only [dv1]
            go_wp2_with fail
            refine (HS3.out.delete q.1).mono ?_
            rintro e wI ⟨rfl, hS⟩
            generalize dv (findP q.1 vs) = rv
            obtain ⟨ra, rn, rc, hc, hS'⟩ := hS.round
            have HS' := hid0 hS'
            clear hS hS'
            go_wp2
            go_roundg (ps.length)
            case measure => simp
            case rel => exact ⟨_, _, ps, rfl, rfl, walk_step (o := some none) HZ.out.1 (by rw [gU1, HL.out, HO.out.2]; simp only [said, HV.out]; try rfl), HZ.out.2, HS'.out⟩
          | some c =>
            simp only [dv1]
            by_cases hcd : c = z
            · have q6 := neq_held1 hcd
              have HV := hid0 (And.intro hv hcd)
              clear hv hcd
              have hS := HS3.out
              obtain ⟨ra, rn, rc, hc, hS'⟩ := hS.round
              have HS' := hid0 hS'
              clear hS hS'
              go_wp2
              go_roundg (ps.length)
              case measure => simp
              case rel => exact ⟨_, _, ps, rfl, rfl, walk_step (o := none) HZ.out.1 (by rw [gU1, HL.out, HO.out.2]; simp only [said, HV.out.1, HV.out.2, if_true]), HZ.out.2, HS'.out⟩
            · have q6 := neq_held0 hcd
              have HV := hid0 (And.intro hv hcd)
              clear hv hcd
              go_wp2_with fail
              refine (HS3.out.insert q.1 (c) HQ.out).mono ?_
              rintro e wI ⟨rfl, hS⟩
              generalize dv (findP q.1 vs) = rv
              obtain ⟨ra, rn, rc, hc, hS'⟩ := hS.round
              have HS' := hid0 hS'
              clear hS hS'
              go_wp2
              go_roundg (ps.length)
              case measure => simp
              case rel => exact ⟨_, _, ps, rfl, rfl, walk_step (o := some (some c)) HZ.out.1 (by rw [gU1, HL.out, HO.out.2]; simp only [said, HV.out.1, Option.some.injEq, HV.out.2, if_false]), HZ.out.2, HS'.out⟩

set_option maxRecDepth 100000 in
set_option maxHeartbeats 2000000 in
theorem TUnion_2 (w : World) (tb ub : Nat) (xs ys : Ps) (ht : Head w tb xs) (hu : Head w ub ys) (f : Value) (o : Option Fun2) (hf : FnIs w f o) (hx : ¬ xs.length = 0) (hy : ¬ ys.length = 0) (hle : ¬ ys.length ≤ xs.length) :
    Calls Try.prog 29 #[.pointer (some ⟨tb, 0, none⟩), .pointer (some ⟨ub, 0, none⟩), f] w (RetT w (unionI o xs ys)) := by
  have HX := hid0 (TSize_any w tb 0 xs ht.at)
  have HY := hid0 (TSize_any w ub 0 ys hu.at)
  have HT := hid0 (And.intro ht hu)
  have b1 : ((xs.length : Int) == 0) = false := by simp [hx]
  have b2 : ((ys.length : Int) == 0) = false := by simp [hy]
  have hlt : xs.length < ys.length := by omega
  have HF := hid0 hf
  obtain ⟨Z, hZ⟩ : ∃ Z, unionI o xs ys = Z := ⟨_, rfl⟩
  rw [hZ]
  have hZ' : walk (gU2 o ys) xs ys = Z := by rw [← hZ, unionI]; simp only [hx, hy, hle, if_false]
  have HZ0 := hid0 hZ'
  have q1 := eql_nil_nil
  have q2 := eql_held_nil
  have q3 := neq_held_nil
  have q4 := neq_nil_held
  have q5 := neq_nil_nil
  have q7 := eql_fn_nil
  have q8 := eql_fn_held
  clear ht hu hZ hZ' hx hy hf
  go_enter Try.func29, Try.ntmps29
  go_wp2_with fail
  refine HX.out.mono ?_
  rintro e w' ⟨rfl, hw⟩
  rw [← hw]
  clear hw
  go_wp2_with fail
  refine HY.out.mono ?_
  rintro e w' ⟨rfl, hw⟩
  rw [← hw]
  clear hw
  go_wp2_with fail
  refine HX.out.mono ?_
  rintro e w' ⟨rfl, hw⟩
  rw [← hw]
  clear hw
  go_wp2_with fail
  refine HY.out.mono ?_
  rintro e w' ⟨rfl, hw⟩
  rw [← hw]
  clear hw
  go_wp2_with fail
  refine (TCopy_any _ ub 0 ys HT.out.2.at).mono ?_
  rintro e w1 ⟨rfl, c1, c2⟩
  have HC := hid0 (And.intro c1 c2)
  clear c1 c2
  go_wp2_with fail
  refine (TIterator_any _ tb 0 xs (HT.out.1.ext HC.out.2).at).mono ?_
  rintro e w2 ⟨v2, g, st, rfl, i1, i2, i3, i4, i5, i6⟩
  obtain ⟨a2, n2, k2, rfl⟩ := i3.form
  have HS0 := hid0 (St.start HC.out.1 (Nat.le_refl _) HC.out.2 i1 i2 i3 i4 i5 i6)
  clear i1 i2 i3 i4 i5 i6 HX HY
  go_wp2
  go_loopg [14] (xs.length) (fun n i wr => ∃ (ib : Nat) (vs ps : Ps), n = ps.length ∧ i = .pointer (some ⟨ib, 0, none⟩) ∧ walk (gU2 o ys) ps vs = Z ∧ (∀ a ∈ ps, -2147483648 < a.1 ∧ a.1 ≤ 2147483647) ∧ St w w.heap.size g wr ib vs ps)
  case atStart => exact ⟨_, _, _, rfl, rfl, HZ0.out, HT.out.1.ok.rng, HS0.out⟩
  case round =>
    obtain ⟨ib, vs, ps, rfl, rfl, hz, hr, hs⟩ := hrel
    have HS := hid0 hs
    cases ps with
    | nil =>
      have HZ := hid0 hz
      clear hz hr hs
      go_wp2_with fail
      refine HS.out.itr.done.mono ?_
      rintro e w' ⟨rfl, hw⟩
      rw [hw]
      clear hw
      go_wp2
      go_ret
      exact ⟨_, rfl, HZ.out ▸ HS.out.head, HS.out.kept⟩
    | cons q ps =>
      have HZ := hid0 (And.intro hz (fun a ha => hr a (List.mem_cons_of_mem _ ha)))
      have HQ := hid0 (hr q (List.mem_cons_self ..))
      clear hz hr hs
      go_wp2_with fail
      refine HS.out.itr.done.mono ?_
      rintro e w' ⟨rfl, hw⟩
      rw [hw]
      clear hw
      simp only [List.isEmpty_cons]
      go_wp2_with fail
      refine HS.out.next.mono ?_
      rintro e wN ⟨rfl, hS2⟩
      have HS2 := hid0 hS2
      clear hS2
      go_wp2_with fail
      refine (HS2.out.find HT.out.2 q.1).mono ?_
      rintro e w' ⟨rfl, hw⟩
      rw [← hw]
      clear hw
      cases hl : look q.1 ys with
      | none =>
        have HL := hid0 hl
        clear hl
        simp only [dv1]
        go_wp2_with fail
        refine (HS2.out.insert q.1 (q.2) HQ.out).mono ?_
        rintro e wI ⟨rfl, hS⟩
        generalize dv (findP q.1 vs) = rv
        obtain ⟨ra, rn, rc, hc, hS'⟩ := hS.round
        have HS' := hid0 hS'
        clear hS hS'
        go_wp2
        go_roundg (ps.length)
        case measure => simp
        case rel => exact ⟨_, _, ps, rfl, rfl, walk_step (o := some (some q.2)) HZ.out.1 (by rw [gU2, HL.out]), HZ.out.2, HS'.out⟩
      | some z =>
        have HL := hid0 hl
        clear hl
        simp only [dv1]
        rcases HF.out with ⟨hfv, ho⟩ | ⟨cb, m, hfv, hm, ho⟩
        · subst hfv
          have HO := hid0 ho
          clear ho

          have hS := HS2.out
          obtain ⟨ra, rn, rc, hc, hS'⟩ := hS.round
          have HS' := hid0 hS'
          clear hS hS'
          go_wp2
          go_roundg (ps.length)
          case measure => simp
          case rel => exact ⟨_, _, ps, rfl, rfl, walk_step (o := none) HZ.out.1 (by rw [gU2, HL.out, HO.out]; rfl), HZ.out.2, HS'.out⟩
        · subst hfv
          have HO := hid0 (And.intro hm ho)
          clear hm ho
          go_wp2_with fail
          refine (call1_any _ cb m (HO.out.1.ext HS2.out.kept) q.2 z).mono ?_
          rintro e wC ⟨rfl, gC⟩
          have HS3 := hid0 (HS2.out.ext gC)
          clear gC
          cases hv : mixV m q.2 z with
          | none =>
            have HV := hid0 hv
            clear hv
            simp only [dv1]
            go_wp2_with fail
            refine (HS3.out.delete q.1).mono ?_
            rintro e wI ⟨rfl, hS⟩
            generalize dv (findP q.1 vs) = rv
            obtain ⟨ra, rn, rc, hc, hS'⟩ := hS.round
            have HS' := hid0 hS'
            clear hS hS'
            go_wp2
            go_roundg (ps.length)
            case measure => simp
            case rel => exact ⟨_, _, ps, rfl, rfl, walk_step (o := some none) HZ.out.1 (by rw [gU2, HL.out, HO.out.2]; simp only [said, HV.out]; try rfl), HZ.out.2, HS'.out⟩
          | some c =>
            simp only [dv1]
            by_cases hcd : c = q.2
            · have q6 := neq_held1 hcd
              have HV := hid0 (And.intro hv hcd)
              clear hv hcd
              have hS := HS3.out
              obtain ⟨ra, rn, rc, hc, hS'⟩ := hS.round
              have HS' := hid0 hS'
              clear hS hS'
              go_wp2
              go_roundg (ps.length)
              case measure => simp
              case rel => exact ⟨_, _, ps, rfl, rfl, walk_step (o := none) HZ.out.1 (by rw [gU2, HL.out, HO.out.2]; simp only [said, HV.out.1, HV.out.2, if_true]), HZ.out.2, HS'.out⟩
            · have q6 := neq_held0 hcd
              have HV := hid0 (And.intro hv hcd)
              clear hv hcd
              go_wp2_with fail
              refine (HS3.out.insert q.1 (c) HQ.out).mono ?_
              rintro e wI ⟨rfl, hS⟩
              generalize dv (findP q.1 vs) = rv
              obtain ⟨ra, rn, rc, hc, hS'⟩ := hS.round
              have HS' := hid0 hS'
              clear hS hS'
              go_wp2
              go_roundg (ps.length)
              case measure => simp
              case rel => exact ⟨_, _, ps, rfl, rfl, walk_step (o := some (some c)) HZ.out.1 (by rw [gU2, HL.out, HO.out.2]; simp only [said, HV.out.1, Option.some.injEq, HV.out.2, if_false]), HZ.out.2, HS'.out⟩

set_option maxRecDepth 100000 in
theorem TInter_x (w : World) (tb ub : Nat) (xs ys : Ps) (ht : Head w tb xs) (hu : Head w ub ys) (f : Value) (o : Option Fun2) (hx : xs.length = 0) (_hy : True) :
    Calls Try.prog 72 #[.pointer (some ⟨tb, 0, none⟩), .pointer (some ⟨ub, 0, none⟩), f] w (RetT w (interI o xs ys)) := by
  have HX := hid0 (TSize_any w tb 0 xs ht.at)
  have HY := hid0 (TSize_any w ub 0 ys hu.at)
  have HT := hid0 (And.intro ht hu)
  have b1 : ((xs.length : Int) == 0) = true := by simp [hx]
  obtain ⟨Z, hZ⟩ : ∃ Z, interI o xs ys = Z := ⟨_, rfl⟩
  rw [hZ]
  have HZ := hid0 hZ
  clear ht hu hZ hx 
  go_enter Try.func72, Try.ntmps72
  go_wp2_with fail
  refine HX.out.mono ?_
  rintro e w' ⟨rfl, hw⟩
  rw [← hw]
  clear hw
  go_wp2
  go_ret
  exact ⟨_, rfl, by rw [← HZ.out, interI, if_pos (by simpa using b1)]; exact Head.empty (alloc_new _ _), (Kept.refl _ _).alloc _⟩

set_option maxRecDepth 100000 in
theorem TInter_y (w : World) (tb ub : Nat) (xs ys : Ps) (ht : Head w tb xs) (hu : Head w ub ys) (f : Value) (o : Option Fun2) (hx : ¬ xs.length = 0) (hy : ys.length = 0) :
    Calls Try.prog 72 #[.pointer (some ⟨tb, 0, none⟩), .pointer (some ⟨ub, 0, none⟩), f] w (RetT w (interI o xs ys)) := by
  have HX := hid0 (TSize_any w tb 0 xs ht.at)
  have HY := hid0 (TSize_any w ub 0 ys hu.at)
  have HT := hid0 (And.intro ht hu)
  have b1 : ((xs.length : Int) == 0) = false := by simp [hx]
  have b2 : ((ys.length : Int) == 0) = true := by simp [hy]
  obtain ⟨Z, hZ⟩ : ∃ Z, interI o xs ys = Z := ⟨_, rfl⟩
  rw [hZ]
  have HZ := hid0 hZ
  clear ht hu hZ hx hy
  go_enter Try.func72, Try.ntmps72
  go_wp2_with fail
  refine HX.out.mono ?_
  rintro e w' ⟨rfl, hw⟩
  rw [← hw]
  clear hw
  go_wp2_with fail
  refine HY.out.mono ?_
  rintro e w' ⟨rfl, hw⟩
  rw [← hw]
  clear hw
  go_wp2
  go_ret
  exact ⟨_, rfl, by rw [← HZ.out, interI, if_neg (by simpa using b1), if_pos (by simpa using b2)]; exact Head.empty (alloc_new _ _), (Kept.refl _ _).alloc _⟩

set_option maxRecDepth 100000 in
set_option maxHeartbeats 2000000 in
theorem TInter_1 (w : World) (tb ub : Nat) (xs ys : Ps) (ht : Head w tb xs) (hu : Head w ub ys) (f : Value) (o : Option Fun2) (hf : FnIs w f o) (hx : ¬ xs.length = 0) (hy : ¬ ys.length = 0) (hle : xs.length ≤ ys.length) :
    Calls Try.prog 72 #[.pointer (some ⟨tb, 0, none⟩), .pointer (some ⟨ub, 0, none⟩), f] w (RetT w (interI o xs ys)) := by
  have HX := hid0 (TSize_any w tb 0 xs ht.at)
  have HY := hid0 (TSize_any w ub 0 ys hu.at)
  have HT := hid0 (And.intro ht hu)
  have b1 : ((xs.length : Int) == 0) = false := by simp [hx]
  have b2 : ((ys.length : Int) == 0) = false := by simp [hy]
  have HF := hid0 hf
  obtain ⟨Z, hZ⟩ : ∃ Z, interI o xs ys = Z := ⟨_, rfl⟩
  rw [hZ]
  have hZ' : walk (gI1 o ys) xs xs = Z := by rw [← hZ, interI]; simp only [hx, hy, hle, if_false, if_true]
  have HZ0 := hid0 hZ'
  have q1 := eql_nil_nil
  have q2 := eql_held_nil
  have q3 := neq_held_nil
  have q4 := neq_nil_held
  have q5 := neq_nil_nil
  have q7 := eql_fn_nil
  have q8 := eql_fn_held
  clear ht hu hZ hZ' hx hy hf
  go_enter Try.func72, Try.ntmps72
  go_wp2_with fail
  refine HX.out.mono ?_
  rintro e w' ⟨rfl, hw⟩
  rw [← hw]
  clear hw
  go_wp2_with fail
  refine HY.out.mono ?_
  rintro e w' ⟨rfl, hw⟩
  rw [← hw]
  clear hw
  go_wp2_with fail
  refine HX.out.mono ?_
  rintro e w' ⟨rfl, hw⟩
  rw [← hw]
  clear hw
  go_wp2_with fail
  refine HY.out.mono ?_
  rintro e w' ⟨rfl, hw⟩
  rw [← hw]
  clear hw
  go_wp2_with fail
  refine (TCopy_any _ tb 0 xs HT.out.1.at).mono ?_
  rintro e w1 ⟨rfl, c1, c2⟩
  have HC := hid0 (And.intro c1 c2)
  clear c1 c2
  go_wp2_with fail
  refine (TIterator_any _ tb 0 xs (HT.out.1.ext HC.out.2).at).mono ?_
  rintro e w2 ⟨v2, g, st, rfl, i1, i2, i3, i4, i5, i6⟩
  obtain ⟨a2, n2, k2, rfl⟩ := i3.form
  have HS0 := hid0 (St.start HC.out.1 (Nat.le_refl _) HC.out.2 i1 i2 i3 i4 i5 i6)
  clear i1 i2 i3 i4 i5 i6 HX HY
  go_wp2
  go_loopg [8] (xs.length) (fun n i wr => ∃ (ib : Nat) (vs ps : Ps), n = ps.length ∧ i = .pointer (some ⟨ib, 0, none⟩) ∧ walk (gI1 o ys) ps vs = Z ∧ (∀ a ∈ ps, -2147483648 < a.1 ∧ a.1 ≤ 2147483647) ∧ St w w.heap.size g wr ib vs ps)
  case atStart => exact ⟨_, _, _, rfl, rfl, HZ0.out, HT.out.1.ok.rng, HS0.out⟩
  case round =>
    obtain ⟨ib, vs, ps, rfl, rfl, hz, hr, hs⟩ := hrel
    have HS := hid0 hs
    cases ps with
    | nil =>
      have HZ := hid0 hz
      clear hz hr hs
      go_wp2_with fail
      refine HS.out.itr.done.mono ?_
      rintro e w' ⟨rfl, hw⟩
      rw [hw]
      clear hw
      go_wp2
      go_ret
      exact ⟨_, rfl, HZ.out ▸ HS.out.head, HS.out.kept⟩
    | cons q ps =>
      have HZ := hid0 (And.intro hz (fun a ha => hr a (List.mem_cons_of_mem _ ha)))
      have HQ := hid0 (hr q (List.mem_cons_self ..))
      clear hz hr hs
      go_wp2_with fail
      refine HS.out.itr.done.mono ?_
      rintro e w' ⟨rfl, hw⟩
      rw [hw]
      clear hw
      simp only [List.isEmpty_cons]
      go_wp2_with fail
      refine HS.out.next.mono ?_
      rintro e wN ⟨rfl, hS2⟩
      have HS2 := hid0 hS2
      clear hS2
      go_wp2_with fail
      refine (HS2.out.find HT.out.2 q.1).mono ?_
      rintro e w' ⟨rfl, hw⟩
      rw [← hw]
      clear hw
      cases hl : look q.1 ys with
      | none =>
        have HL := hid0 hl
        clear hl
        simp only [dv1]
        go_wp2_with fail
        refine (HS2.out.delete q.1).mono ?_
        rintro e wI ⟨rfl, hS⟩
        generalize dv (findP q.1 vs) = rv
        obtain ⟨ra, rn, rc, hc, hS'⟩ := hS.round
        have HS' := hid0 hS'
        clear hS hS'
        go_wp2
        go_roundg (ps.length)
        case measure => simp
        case rel => exact ⟨_, _, ps, rfl, rfl, walk_step (o := some none) HZ.out.1 (by rw [gI1, HL.out]), HZ.out.2, HS'.out⟩
      | some z =>
        have HL := hid0 hl
        clear hl
        simp only [dv1]
        rcases HF.out with ⟨hfv, ho⟩ | ⟨cb, m, hfv, hm, ho⟩
        · subst hfv
          have HO := hid0 ho
          clear ho

          have hS := HS2.out
          obtain ⟨ra, rn, rc, hc, hS'⟩ := hS.round
          have HS' := hid0 hS'
          clear hS hS'
          go_wp2
          go_roundg (ps.length)
          case measure => simp
          case rel => exact ⟨_, _, ps, rfl, rfl, walk_step (o := none) HZ.out.1 (by rw [gI1, HL.out, HO.out]; rfl), HZ.out.2, HS'.out⟩
        · subst hfv
          have HO := hid0 (And.intro hm ho)
          clear hm ho
          go_wp2_with fail
          refine (call1_any _ cb m (HO.out.1.ext HS2.out.kept) q.2 z).mono ?_
          rintro e wC ⟨rfl, gC⟩
          have HS3 := hid0 (HS2.out.ext gC)
          clear gC
          cases hv : mixV m q.2 z with
          | none =>
            have HV := hid0 hv
            clear hv
            simp only [dv1]
            go_wp2_with fail
            refine (HS3.out.delete q.1).mono ?_
            rintro e wI ⟨rfl, hS⟩
            generalize dv (findP q.1 vs) = rv
            obtain ⟨ra, rn, rc, hc, hS'⟩ := hS.round
            have HS' := hid0 hS'
            clear hS hS'
            go_wp2
            go_roundg (ps.length)
            case measure => simp
            case rel => exact ⟨_, _, ps, rfl, rfl, walk_step (o := some none) HZ.out.1 (by rw [gI1, HL.out, HO.out.2]; simp only [said, HV.out]; try rfl), HZ.out.2, HS'.out⟩
          | some c =>
            simp only [dv1]
            by_cases hcd : c = q.2
            · have q6 := neq_held1 hcd
              have HV := hid0 (And.intro hv hcd)
              clear hv hcd
              have hS := HS3.out
              obtain ⟨ra, rn, rc, hc, hS'⟩ := hS.round
              have HS' := hid0 hS'
              clear hS hS'
              go_wp2
              go_roundg (ps.length)
              case measure => simp
              case rel => exact ⟨_, _, ps, rfl, rfl, walk_step (o := none) HZ.out.1 (by rw [gI1, HL.out, HO.out.2]; simp only [said, HV.out.1, HV.out.2, if_true]), HZ.out.2, HS'.out⟩
            · have q6 := neq_held0 hcd
              have HV := hid0 (And.intro hv hcd)
              clear hv hcd
              go_wp2_with fail
              refine (HS3.out.insert q.1 (c) HQ.out).mono ?_
              rintro e wI ⟨rfl, hS⟩
              generalize dv (findP q.1 vs) = rv
              obtain ⟨ra, rn, rc, hc, hS'⟩ := hS.round
              have HS' := hid0 hS'
              clear hS hS'
              go_wp2
              go_roundg (ps.length)
              case measure => simp
              case rel => exact ⟨_, _, ps, rfl, rfl, walk_step (o := some (some c)) HZ.out.1 (by rw [gI1, HL.out, HO.out.2]; simp only [said, HV.out.1, Option.some.injEq, HV.out.2, if_false]), HZ.out.2, HS'.out⟩

set_option maxRecDepth 100000 in
set_option maxHeartbeats 2000000 in
theorem TInter_2 (w : World) (tb ub : Nat) (xs ys : Ps) (ht : Head w tb xs) (hu : Head w ub ys) (f : Value) (o : Option Fun2) (hf : FnIs w f o) (hx : ¬ xs.length = 0) (hy : ¬ ys.length = 0) (hle : ¬ xs.length ≤ ys.length) :
    Calls Try.prog 72 #[.pointer (some ⟨tb, 0, none⟩), .pointer (some ⟨ub, 0, none⟩), f] w (RetT w (interI o xs ys)) := by
  have HX := hid0 (TSize_any w tb 0 xs ht.at)
  have HY := hid0 (TSize_any w ub 0 ys hu.at)
  have HT := hid0 (And.intro ht hu)
  have b1 : ((xs.length : Int) == 0) = false := by simp [hx]
  have b2 : ((ys.length : Int) == 0) = false := by simp [hy]
  have hlt : ys.length < xs.length := by omega
  have HF := hid0 hf
  obtain ⟨Z, hZ⟩ : ∃ Z, interI o xs ys = Z := ⟨_, rfl⟩
  rw [hZ]
  have hZ' : walk (gI2 o xs) ys ys = Z := by rw [← hZ, interI]; simp only [hx, hy, hle, if_false]
  have HZ0 := hid0 hZ'
  have q1 := eql_nil_nil
  have q2 := eql_held_nil
  have q3 := neq_held_nil
  have q4 := neq_nil_held
  have q5 := neq_nil_nil
  have q7 := eql_fn_nil
  have q8 := eql_fn_held
  clear ht hu hZ hZ' hx hy hf
  go_enter Try.func72, Try.ntmps72
  go_wp2_with fail
  refine HX.out.mono ?_
  rintro e w' ⟨rfl, hw⟩
  rw [← hw]
  clear hw
  go_wp2_with fail
  refine HY.out.mono ?_
  rintro e w' ⟨rfl, hw⟩
  rw [← hw]
  clear hw
  go_wp2_with fail
  refine HX.out.mono ?_
  rintro e w' ⟨rfl, hw⟩
  rw [← hw]
  clear hw
  go_wp2_with fail
  refine HY.out.mono ?_
  rintro e w' ⟨rfl, hw⟩
  rw [← hw]
  clear hw
  go_wp2_with fail
  refine (TCopy_any _ ub 0 ys HT.out.2.at).mono ?_
  rintro e w1 ⟨rfl, c1, c2⟩
  have HC := hid0 (And.intro c1 c2)
  clear c1 c2
  go_wp2_with fail
  refine (TIterator_any _ ub 0 ys (HT.out.2.ext HC.out.2).at).mono ?_
  rintro e w2 ⟨v2, g, st, rfl, i1, i2, i3, i4, i5, i6⟩
  obtain ⟨a2, n2, k2, rfl⟩ := i3.form
  have HS0 := hid0 (St.start HC.out.1 (Nat.le_refl _) HC.out.2 i1 i2 i3 i4 i5 i6)
  clear i1 i2 i3 i4 i5 i6 HX HY
  go_wp2
  go_loopg [14] (ys.length) (fun n i wr => ∃ (ib : Nat) (vs ps : Ps), n = ps.length ∧ i = .pointer (some ⟨ib, 0, none⟩) ∧ walk (gI2 o xs) ps vs = Z ∧ (∀ a ∈ ps, -2147483648 < a.1 ∧ a.1 ≤ 2147483647) ∧ St w w.heap.size g wr ib vs ps)
  case atStart => exact ⟨_, _, _, rfl, rfl, HZ0.out, HT.out.2.ok.rng, HS0.out⟩
  case round =>
    obtain ⟨ib, vs, ps, rfl, rfl, hz, hr, hs⟩ := hrel
    have HS := hid0 hs
    cases ps with
    | nil =>
      have HZ := hid0 hz
      clear hz hr hs
      go_wp2_with fail
      refine HS.out.itr.done.mono ?_
      rintro e w' ⟨rfl, hw⟩
      rw [hw]
      clear hw
      go_wp2
      go_ret
      exact ⟨_, rfl, HZ.out ▸ HS.out.head, HS.out.kept⟩
    | cons q ps =>
      have HZ := hid0 (And.intro hz (fun a ha => hr a (List.mem_cons_of_mem _ ha)))
      have HQ := hid0 (hr q (List.mem_cons_self ..))
      clear hz hr hs
      go_wp2_with fail
      refine HS.out.itr.done.mono ?_
      rintro e w' ⟨rfl, hw⟩
      rw [hw]
      clear hw
      simp only [List.isEmpty_cons]
      go_wp2_with fail
      refine HS.out.next.mono ?_
      rintro e wN ⟨rfl, hS2⟩
      have HS2 := hid0 hS2
      clear hS2
      go_wp2_with fail
      refine (HS2.out.find HT.out.1 q.1).mono ?_
      rintro e w' ⟨rfl, hw⟩
      rw [← hw]
      clear hw
      cases hl : look q.1 xs with
      | none =>
        have HL := hid0 hl
        clear hl
        simp only [dv1]
        go_wp2_with fail
        refine (HS2.out.delete q.1).mono ?_
        rintro e wI ⟨rfl, hS⟩
        generalize dv (findP q.1 vs) = rv
        obtain ⟨ra, rn, rc, hc, hS'⟩ := hS.round
        have HS' := hid0 hS'
        clear hS hS'
        go_wp2
        go_roundg (ps.length)
        case measure => simp
        case rel => exact ⟨_, _, ps, rfl, rfl, walk_step (o := some none) HZ.out.1 (by rw [gI2, HL.out]), HZ.out.2, HS'.out⟩
      | some z =>
        have HL := hid0 hl
        clear hl
        simp only [dv1]
        rcases HF.out with ⟨hfv, ho⟩ | ⟨cb, m, hfv, hm, ho⟩
        · subst hfv
          have HO := hid0 ho
          clear ho

          have hS := HS2.out
          obtain ⟨ra, rn, rc, hc, hS'⟩ := hS.round
          have HS' := hid0 hS'
          clear hS hS'
          go_wp2
          go_roundg (ps.length)
          case measure => simp
          case rel => exact ⟨_, _, ps, rfl, rfl, walk_step (o := none) HZ.out.1 (by rw [gI2, HL.out, HO.out]; rfl), HZ.out.2, HS'.out⟩
        · subst hfv
          have HO := hid0 (And.intro hm ho)
          clear hm ho
          go_wp2_with fail
          refine (call1_any _ cb m (HO.out.1.ext HS2.out.kept) z q.2).mono ?_
          rintro e wC ⟨rfl, gC⟩
          have HS3 := hid0 (HS2.out.ext gC)
          clear gC
          cases hv : mixV m z q.2 with
          | none =>
            have HV := hid0 hv
            clear hv
            simp only [dv1]
            go_wp2_with fail
            refine (HS3.out.delete q.1).mono ?_
            rintro e wI ⟨rfl, hS⟩
            generalize dv (findP q.1 vs) = rv
            obtain ⟨ra, rn, rc, hc, hS'⟩ := hS.round
            have HS' := hid0 hS'
            clear hS hS'
            go_wp2
            go_roundg (ps.length)
            case measure => simp
            case rel => exact ⟨_, _, ps, rfl, rfl, walk_step (o := some none) HZ.out.1 (by rw [gI2, HL.out, HO.out.2]; simp only [said, HV.out]; try rfl), HZ.out.2, HS'.out⟩
          | some c =>
            simp only [dv1]
            by_cases hcd : c = z
            · have q6 := neq_held1 hcd
              have HV := hid0 (And.intro hv hcd)
              clear hv hcd
              have hS := HS3.out
              obtain ⟨ra, rn, rc, hc, hS'⟩ := hS.round
              have HS' := hid0 hS'
              clear hS hS'
              go_wp2
              go_roundg (ps.length)
              case measure => simp
              case rel => exact ⟨_, _, ps, rfl, rfl, walk_step (o := none) HZ.out.1 (by rw [gI2, HL.out, HO.out.2]; simp only [said, HV.out.1, HV.out.2, if_true]), HZ.out.2, HS'.out⟩
            · have q6 := neq_held0 hcd
              have HV := hid0 (And.intro hv hcd)
              clear hv hcd
              go_wp2_with fail
              refine (HS3.out.insert q.1 (c) HQ.out).mono ?_
              rintro e wI ⟨rfl, hS⟩
              generalize dv (findP q.1 vs) = rv
              obtain ⟨ra, rn, rc, hc, hS'⟩ := hS.round
              have HS' := hid0 hS'
              clear hS hS'
              go_wp2
              go_roundg (ps.length)
              case measure => simp
              case rel => exact ⟨_, _, ps, rfl, rfl, walk_step (o := some (some c)) HZ.out.1 (by rw [gI2, HL.out, HO.out.2]; simp only [said, HV.out.1, Option.some.injEq, HV.out.2, if_false]), HZ.out.2, HS'.out⟩

set_option maxRecDepth 100000 in
theorem TDiff_x (w : World) (tb ub : Nat) (xs ys : Ps) (ht : Head w tb xs) (hu : Head w ub ys) (f : Value) (o : Option Fun2) (hx : xs.length = 0) (_hy : True) :
    Calls Try.prog 46 #[.pointer (some ⟨tb, 0, none⟩), .pointer (some ⟨ub, 0, none⟩), f] w (RetT w (diffI o xs ys)) := by
  have HX := hid0 (TSize_any w tb 0 xs ht.at)
  have HY := hid0 (TSize_any w ub 0 ys hu.at)
  have HT := hid0 (And.intro ht hu)
  have b1 : ((xs.length : Int) == 0) = true := by simp [hx]
  obtain ⟨Z, hZ⟩ : ∃ Z, diffI o xs ys = Z := ⟨_, rfl⟩
  rw [hZ]
  have HZ := hid0 hZ
  clear ht hu hZ hx 
  go_enter Try.func46, Try.ntmps46
  go_wp2_with fail
  refine HX.out.mono ?_
  rintro e w' ⟨rfl, hw⟩
  rw [← hw]
  clear hw
  go_wp2
  go_ret
  exact ⟨_, rfl, by rw [← HZ.out, diffI, if_pos (by simpa using b1)]; exact Head.empty (alloc_new _ _), (Kept.refl _ _).alloc _⟩

set_option maxRecDepth 100000 in
theorem TDiff_y (w : World) (tb ub : Nat) (xs ys : Ps) (ht : Head w tb xs) (hu : Head w ub ys) (f : Value) (o : Option Fun2) (hx : ¬ xs.length = 0) (hy : ys.length = 0) :
    Calls Try.prog 46 #[.pointer (some ⟨tb, 0, none⟩), .pointer (some ⟨ub, 0, none⟩), f] w (RetT w (diffI o xs ys)) := by
  have HX := hid0 (TSize_any w tb 0 xs ht.at)
  have HY := hid0 (TSize_any w ub 0 ys hu.at)
  have HT := hid0 (And.intro ht hu)
  have b1 : ((xs.length : Int) == 0) = false := by simp [hx]
  have b2 : ((ys.length : Int) == 0) = true := by simp [hy]
  obtain ⟨Z, hZ⟩ : ∃ Z, diffI o xs ys = Z := ⟨_, rfl⟩
  rw [hZ]
  have HZ := hid0 hZ
  clear ht hu hZ hx hy
  go_enter Try.func46, Try.ntmps46
  go_wp2_with fail
  refine HX.out.mono ?_
  rintro e w' ⟨rfl, hw⟩
  rw [← hw]
  clear hw
  go_wp2_with fail
  refine HY.out.mono ?_
  rintro e w' ⟨rfl, hw⟩
  rw [← hw]
  clear hw
  go_wp2
  go_ret
  exact ⟨tb, rfl, by rw [← HZ.out, diffI, if_neg (by simpa using b1), if_pos (by simpa using b2)]; exact HT.out.1, Kept.refl _ _⟩

set_option maxRecDepth 100000 in
set_option maxHeartbeats 2000000 in
theorem TDiff_1 (w : World) (tb ub : Nat) (xs ys : Ps) (ht : Head w tb xs) (hu : Head w ub ys) (f : Value) (o : Option Fun2) (hf : FnIs w f o) (hx : ¬ xs.length = 0) (hy : ¬ ys.length = 0) :
    Calls Try.prog 46 #[.pointer (some ⟨tb, 0, none⟩), .pointer (some ⟨ub, 0, none⟩), f] w (RetT w (diffI o xs ys)) := by
  have HX := hid0 (TSize_any w tb 0 xs ht.at)
  have HY := hid0 (TSize_any w ub 0 ys hu.at)
  have HT := hid0 (And.intro ht hu)
  have b1 : ((xs.length : Int) == 0) = false := by simp [hx]
  have b2 : ((ys.length : Int) == 0) = false := by simp [hy]
  have HF := hid0 hf
  obtain ⟨Z, hZ⟩ : ∃ Z, diffI o xs ys = Z := ⟨_, rfl⟩
  rw [hZ]
  have hZ' : walk (gD o ys) xs xs = Z := by rw [← hZ, diffI]; simp only [hx, hy, if_false]
  have HZ0 := hid0 hZ'
  have q1 := eql_nil_nil
  have q2 := eql_held_nil
  have q3 := neq_held_nil
  have q4 := neq_nil_held
  have q5 := neq_nil_nil
  have q7 := eql_fn_nil
  have q8 := eql_fn_held
  clear ht hu hZ hZ' hx hy hf
  go_enter Try.func46, Try.ntmps46
  go_wp2_with fail
  refine HX.out.mono ?_
  rintro e w' ⟨rfl, hw⟩
  rw [← hw]
  clear hw
  go_wp2_with fail
  refine HY.out.mono ?_
  rintro e w' ⟨rfl, hw⟩
  rw [← hw]
  clear hw
  go_wp2_with fail
  refine (TCopy_any _ tb 0 xs HT.out.1.at).mono ?_
  rintro e w1 ⟨rfl, c1, c2⟩
  have HC := hid0 (And.intro c1 c2)
  clear c1 c2
  go_wp2_with fail
  refine (TIterator_any _ tb 0 xs (HT.out.1.ext HC.out.2).at).mono ?_
  rintro e w2 ⟨v2, g, st, rfl, i1, i2, i3, i4, i5, i6⟩
  obtain ⟨a2, n2, k2, rfl⟩ := i3.form
  have HS0 := hid0 (St.start HC.out.1 (Nat.le_refl _) HC.out.2 i1 i2 i3 i4 i5 i6)
  clear i1 i2 i3 i4 i5 i6 HX HY
  go_wp2
  go_loopg [8] (xs.length) (fun n i wr => ∃ (ib : Nat) (vs ps : Ps), n = ps.length ∧ i = .pointer (some ⟨ib, 0, none⟩) ∧ walk (gD o ys) ps vs = Z ∧ (∀ a ∈ ps, -2147483648 < a.1 ∧ a.1 ≤ 2147483647) ∧ St w w.heap.size g wr ib vs ps)
  case atStart => exact ⟨_, _, _, rfl, rfl, HZ0.out, HT.out.1.ok.rng, HS0.out⟩
  case round =>
    obtain ⟨ib, vs, ps, rfl, rfl, hz, hr, hs⟩ := hrel
    have HS := hid0 hs
    cases ps with
    | nil =>
      have HZ := hid0 hz
      clear hz hr hs
      go_wp2_with fail
      refine HS.out.itr.done.mono ?_
      rintro e w' ⟨rfl, hw⟩
      rw [hw]
      clear hw
      go_wp2
      go_ret
      exact ⟨_, rfl, HZ.out ▸ HS.out.head, HS.out.kept⟩
    | cons q ps =>
      have HZ := hid0 (And.intro hz (fun a ha => hr a (List.mem_cons_of_mem _ ha)))
      have HQ := hid0 (hr q (List.mem_cons_self ..))
      clear hz hr hs
      go_wp2_with fail
      refine HS.out.itr.done.mono ?_
      rintro e w' ⟨rfl, hw⟩
      rw [hw]
      clear hw
      simp only [List.isEmpty_cons]
      go_wp2_with fail
      refine HS.out.next.mono ?_
      rintro e wN ⟨rfl, hS2⟩
      have HS2 := hid0 hS2
      clear hS2
      go_wp2_with fail
      refine (HS2.out.find HT.out.2 q.1).mono ?_
      rintro e w' ⟨rfl, hw⟩
      rw [← hw]
      clear hw
      cases hl : look q.1 ys with
      | none =>
        have HL := hid0 hl
        clear hl
        simp only [dv1]
        have hS := HS2.out
        obtain ⟨ra, rn, rc, hc, hS'⟩ := hS.round
        have HS' := hid0 hS'
        clear hS hS'
        go_wp2
        go_roundg (ps.length)
        case measure => simp
        case rel => exact ⟨_, _, ps, rfl, rfl, walk_step (o := none) HZ.out.1 (by rw [gD, HL.out]), HZ.out.2, HS'.out⟩
      | some z =>
        have HL := hid0 hl
        clear hl
        simp only [dv1]
        rcases HF.out with ⟨hfv, ho⟩ | ⟨cb, m, hfv, hm, ho⟩
        · subst hfv
          have HO := hid0 ho
          clear ho

          go_wp2_with fail
          refine (HS2.out.delete q.1).mono ?_
          rintro e wI ⟨rfl, hS⟩
          generalize dv (findP q.1 vs) = rv
          obtain ⟨ra, rn, rc, hc, hS'⟩ := hS.round
          have HS' := hid0 hS'
          clear hS hS'
          go_wp2
          go_roundg (ps.length)
          case measure => simp
          case rel => exact ⟨_, _, ps, rfl, rfl, walk_step (o := some none) HZ.out.1 (by rw [gD, HL.out, HO.out]), HZ.out.2, HS'.out⟩
        · subst hfv
          have HO := hid0 (And.intro hm ho)
          clear hm ho
          go_wp2_with fail
          refine (call1_any _ cb m (HO.out.1.ext HS2.out.kept) q.2 z).mono ?_
          rintro e wC ⟨rfl, gC⟩
          have HS3 := hid0 (HS2.out.ext gC)
          clear gC
          cases hv : mixV m q.2 z with
          | none =>
            have HV := hid0 hv
            clear hv
            simp only [dv1]
            go_wp2_with fail
            refine (HS3.out.delete q.1).mono ?_
            rintro e wI ⟨rfl, hS⟩
            generalize dv (findP q.1 vs) = rv
            obtain ⟨ra, rn, rc, hc, hS'⟩ := hS.round
            have HS' := hid0 hS'
            clear hS hS'
            go_wp2
            go_roundg (ps.length)
            case measure => simp
            case rel => exact ⟨_, _, ps, rfl, rfl, walk_step (o := some none) HZ.out.1 (by rw [gD, HL.out, HO.out.2]; simp only [said, HV.out]; try rfl), HZ.out.2, HS'.out⟩
          | some c =>
            simp only [dv1]
            by_cases hcd : c = q.2
            · have q6 := neq_held1 hcd
              have HV := hid0 (And.intro hv hcd)
              clear hv hcd
              have hS := HS3.out
              obtain ⟨ra, rn, rc, hc, hS'⟩ := hS.round
              have HS' := hid0 hS'
              clear hS hS'
              go_wp2
              go_roundg (ps.length)
              case measure => simp
              case rel => exact ⟨_, _, ps, rfl, rfl, walk_step (o := none) HZ.out.1 (by rw [gD, HL.out, HO.out.2]; simp only [said, HV.out.1, HV.out.2, if_true]), HZ.out.2, HS'.out⟩
            · have q6 := neq_held0 hcd
              have HV := hid0 (And.intro hv hcd)
              clear hv hcd
              go_wp2_with fail
              refine (HS3.out.insert q.1 (c) HQ.out).mono ?_
              rintro e wI ⟨rfl, hS⟩
              generalize dv (findP q.1 vs) = rv
              obtain ⟨ra, rn, rc, hc, hS'⟩ := hS.round
              have HS' := hid0 hS'
              clear hS hS'
              go_wp2
              go_roundg (ps.length)
              case measure => simp
              case rel => exact ⟨_, _, ps, rfl, rfl, walk_step (o := some (some c)) HZ.out.1 (by rw [gD, HL.out, HO.out.2]; simp only [said, HV.out.1, Option.some.injEq, HV.out.2, if_false]), HZ.out.2, HS'.out⟩

theorem TUnion_any (w : World) (tb ub : Nat) (xs ys : Ps) (ht : Head w tb xs) (hu : Head w ub ys) (f : Value) (o : Option Fun2) (hf : FnIs w f o) :
    Calls Try.prog 29 #[.pointer (some ⟨tb, 0, none⟩), .pointer (some ⟨ub, 0, none⟩), f] w (RetT w (unionI o xs ys)) := by
  by_cases hx : xs.length = 0
  · exact TUnion_x w tb ub xs ys ht hu f o hx trivial
  by_cases hy : ys.length = 0
  · exact TUnion_y w tb ub xs ys ht hu f o hx hy
  by_cases hle : ys.length ≤ xs.length
  · exact TUnion_1 w tb ub xs ys ht hu f o hf hx hy hle
  · exact TUnion_2 w tb ub xs ys ht hu f o hf hx hy hle

theorem TIntersection_any (w : World) (tb ub : Nat) (xs ys : Ps) (ht : Head w tb xs) (hu : Head w ub ys) (f : Value) (o : Option Fun2) (hf : FnIs w f o) :
    Calls Try.prog 72 #[.pointer (some ⟨tb, 0, none⟩), .pointer (some ⟨ub, 0, none⟩), f] w (RetT w (interI o xs ys)) := by
  by_cases hx : xs.length = 0
  · exact TInter_x w tb ub xs ys ht hu f o hx trivial
  by_cases hy : ys.length = 0
  · exact TInter_y w tb ub xs ys ht hu f o hx hy
  by_cases hle : xs.length ≤ ys.length
  · exact TInter_1 w tb ub xs ys ht hu f o hf hx hy hle
  · exact TInter_2 w tb ub xs ys ht hu f o hf hx hy hle

theorem TDifference_any (w : World) (tb ub : Nat) (xs ys : Ps) (ht : Head w tb xs) (hu : Head w ub ys) (f : Value) (o : Option Fun2) (hf : FnIs w f o) :
    Calls Try.prog 46 #[.pointer (some ⟨tb, 0, none⟩), .pointer (some ⟨ub, 0, none⟩), f] w (RetT w (diffI o xs ys)) := by
  by_cases hx : xs.length = 0
  · exact TDiff_x w tb ub xs ys ht hu f o hx trivial
  by_cases hy : ys.length = 0
  · exact TDiff_y w tb ub xs ys ht hu f o hx hy
  exact TDiff_1 w tb ub xs ys ht hu f o hf hx hy

end Go.Proofs.Ytehegllgaiehfaa
