/- The walk of FnDeletes. -/
import Derived.Test.YtehegllgaiehfaaImplU
import Derived.Test.YtehegllgaiehfaaHi
import Derived.Test.YtehegllgaiehfaaInPl
namespace Go.Proofs.Ytehegllgaiehfaa
open Go.RowKit

def mx0 : Mx := ⟨false, 0, 0, 0, 0, 0⟩
def actA (p : Ps) (i : Nat) : Ac := ⟨0, i, 0, (p.getD i (0, 0)).1, (p.getD i (0, 0)).2, mx0⟩
def actB (p q : Ps) (i : Nat) : Ac := ⟨1, (p.length : Int) + i, 0, (q.getD i (0, 0)).1, 0, mx0⟩
def actsA (p : Ps) (k : Nat) : List Ac := (List.range k).map (actA p)
def actsB (p q : Ps) (k : Nat) : List Ac := actsA p p.length ++ (List.range k).map (actB p q)
theorem actsA_succ (p : Ps) (k : Nat) (h : k < p.length) : actsA p (k + 1) = actsA p k ++ [⟨0, k, 0, p[k].1, p[k].2, mx0⟩] := by
  rw [actsA, List.range_succ, List.map_append, List.map_cons, List.map_nil, actA, List.getD_eq_getElem?_getD, List.getElem?_eq_getElem h]; rfl
theorem actsB_succ (p q : Ps) (k : Nat) (h : k < q.length) : actsB p q (k + 1) = actsB p q k ++ [⟨1, (p.length : Int) + k, 0, q[k].1, 0, mx0⟩] := by
  rw [actsB, actsB, List.range_succ, List.map_append, List.map_cons, List.map_nil, actB, List.getD_eq_getElem?_getD, List.getElem?_eq_getElem h, List.append_assoc]; rfl
theorem actsA_len (p : Ps) (k : Nat) : (actsA p k).length = k := by simp [actsA]
theorem actsB_len (p q : Ps) (k : Nat) : (actsB p q k).length = p.length + k := by simp [actsB, actsA_len]
theorem actsB_get (p q : Ps) (m i : Nat) (h : i < (actsB p q m).length) : ((actsB p q m)[i] = actA p i ∧ i < p.length) ∨ (p.length ≤ i ∧ (actsB p q m)[i] = actB p q (i - p.length)) := by
  by_cases hi : i < p.length
  · refine .inl ⟨?_, hi⟩
    simp only [actsB]
    rw [List.getElem_append_left (by rw [actsA_len]; exact hi)]
    simp [actsA]
  · refine .inr ⟨by omega, ?_⟩
    simp only [actsB]
    rw [List.getElem_append_right (by rw [actsA_len]; omega)]
    simp [actsA_len]
theorem bits07 : bits .and .i64 0 7 = 0 := by decide
theorem bits17 : bits .and .i64 1 7 = 1 := by decide
theorem bits03 : bits .and .i64 0 3 = 0 := by decide
theorem bits13 : bits .and .i64 1 3 = 1 := by decide
theorem kinds (p q : Ps) (m i : Nat) (h : i < (actsB p q m).length) : (bits .and .i64 ((actsB p q m)[i]).kind 7 = 0 ∨ bits .and .i64 ((actsB p q m)[i]).kind 7 = 1) ∧ ((actsB p q m)[i]).of = i := by
  rcases actsB_get p q m i h with ⟨e, _⟩ | ⟨h1, e⟩
  · rw [e]; exact ⟨.inl bits07, rfl⟩
  · rw [e]; refine ⟨.inr bits17, ?_⟩
    simp only [actB]; omega
theorem mem_actsB {p q : Ps} {a : Ac} (h : a ∈ actsB p q q.length) : (∃ b ∈ p, a.key = b.1) ∨ ∃ b ∈ q, a.key = b.1 := by
  simp only [actsB] at h
  rcases List.mem_append.1 h with h | h
  · obtain ⟨i, hi, rfl⟩ := List.mem_map.1 h
    have hi' := List.mem_range.1 hi
    refine .inl ⟨p[i], List.getElem_mem hi', ?_⟩
    simp only [actA]
    rw [List.getD_eq_getElem?_getD, List.getElem?_eq_getElem hi']; rfl
  · obtain ⟨i, hi, rfl⟩ := List.mem_map.1 h
    have hi' := List.mem_range.1 hi
    refine .inr ⟨q[i], List.getElem_mem hi', ?_⟩
    simp only [actB]
    rw [List.getD_eq_getElem?_getD, List.getElem?_eq_getElem hi']; rfl
theorem played_dels {p q : Ps} (hp : KeysOk p) (hq : KeysOk q) : Played (actsB p q q.length) := by
  refine ⟨fun a ha => ⟨?_, fun hk => ?_⟩, fun k h hk => ?_⟩
  · rcases mem_actsB ha with ⟨b, hb, e⟩ | ⟨b, hb, e⟩
    · have := hp b hb; omega
    · have := hq b hb; omega
  · obtain ⟨i, hi, rfl⟩ := List.getElem_of_mem ha
    have := (kinds p q _ i hi).1
    omega
  · have := (kinds p q _ k h).1
    omega
theorem actsW_dels {p q : Ps} (hp : KeysOk p) (hq : KeysOk q) : ActsW (actsB p q q.length) := fun a ha => by
  rcases mem_actsB ha with ⟨b, hb, e⟩ | ⟨b, hb, e⟩
  · have := hp b hb; omega
  · have := hq b hb; omega
theorem idx_self (n c : Nat) (h : n < c) : idx n c = n := by
  unfold idx
  rw [Int.emod_eq_of_lt (by omega) (by omega)]
  simp
/-- each version is made of the last one -/
theorem hist_last {ax : List Ac} (h : ∀ i (hi : i < ax.length), (bits .and .i64 ax[i].kind 7 = 0 ∨ bits .and .i64 ax[i].kind 7 = 1) ∧ ax[i].of = i) : ∀ k, k ≤ ax.length → (hist (ax.take k)).1.getD k [] = setAt ax k
  | 0, _ => by simp [hist, setAt]
  | k + 1, hk => by
    have hl := (hist_len ax k (by omega)).1
    obtain ⟨h1, h2⟩ := h k (by omega)
    rw [hist_take ax k (by omega), setAt_succ ax k (by omega)]
    simp only
    rw [List.getD_eq_getElem?_getD, List.getElem?_append_right (by omega), hl]
    simp only [Nat.sub_self, List.getElem?_cons_zero, Option.getD_some]
    unfold stepH
    rw [if_neg (by omega), if_neg (by omega), if_neg (by omega), if_neg (by omega), h2, hl, idx_self k (k + 1) (by omega), hist_last h k (by omega)]
theorem hist_at {ax : List Ac} (h : ∀ i (hi : i < ax.length), (bits .and .i64 ax[i].kind 7 = 0 ∨ bits .and .i64 ax[i].kind 7 = 1) ∧ ax[i].of = i) (k : Nat) (hk : k ≤ ax.length) : (hist ax).1.getD k [] = setAt ax k := by
  rw [hist_get ax k k hk (by omega)]; exact hist_last h k hk
theorem upd_ins (a : Ac) (s : Ps) (h : bits .and .i64 a.kind 3 = 0) : (upd s a).1 = put a.key a.data s := by
  unfold upd; rw [if_pos h]
theorem upd_del (a : Ac) (s : Ps) (h : bits .and .i64 a.kind 3 = 1) : (upd s a).1 = drop a.key s := by
  unfold upd; rw [if_neg (by omega), if_pos h]
theorem setA (p q : Ps) (m : Nat) : ∀ k, k ≤ p.length → setAt (actsB p q m) k = treeP (p.take k)
  | 0, _ => by simp [setAt, treeP]
  | k + 1, hk => by
    have hl : k < (actsB p q m).length := by rw [actsB_len]; omega
    rw [setAt_succ _ k hl, setA p q m k (by omega), treeP_snoc p k (by omega)]
    rcases actsB_get p q m k hl with ⟨e, _⟩ | ⟨h1, _⟩
    · rw [e, upd_ins (actA p k) _ bits03]
      simp only [actA]
      rw [List.getD_eq_getElem?_getD, List.getElem?_eq_getElem (by omega)]; rfl
    · omega
theorem setB (p q : Ps) (m : Nat) (hm : m ≤ q.length) : ∀ k, k ≤ m → setAt (actsB p q m) (p.length + k) = (q.take k).foldl (fun s b => drop b.1 s) (treeP p)
  | 0, _ => by
    rw [Nat.add_zero, setA p q m p.length (Nat.le_refl _), List.take_length]; rfl
  | k + 1, hk => by
    have hl : p.length + k < (actsB p q m).length := by rw [actsB_len]; omega
    rw [← Nat.add_assoc, setAt_succ _ _ hl, setB p q m hm k (by omega), List.take_succ_eq_append_getElem (show k < q.length by omega), List.foldl_append]
    rcases actsB_get p q m _ hl with ⟨_, h1⟩ | ⟨_, e⟩
    · omega
    · rw [e, Nat.add_sub_cancel_left]
      rw [upd_del (actB p q k) _ bits13]
      simp only [actB]
      rw [List.getD_eq_getElem?_getD, List.getElem?_eq_getElem (show k < q.length by omega)]; rfl
theorem look_drops (k : Int) : ∀ (q s : Ps), look k (q.foldl (fun s b => drop b.1 s) s) = if (q.any fun b => b.1 == k) then none else look k s
  | [], s => by simp
  | b :: q, s => by
    rw [List.foldl_cons, look_drops k q, look_drop]
    by_cases e : k = b.1
    · subst e; simp
    · have : (b.1 == k) = false := by simp; exact fun h => e h.symm
      rw [if_neg e, List.any_cons, this, Bool.false_or]
theorem any_look (k : Int) (q : Ps) : (q.any fun b => b.1 == k) = (look k (treeP q)).isSome := by
  rw [look_treeP]
  suffices h : ∀ (q : Ps) (o : Option Int), (q.foldl (fun o p => if k = p.1 then some p.2 else o) o).isSome = ((q.any fun b => b.1 == k) || o.isSome) by simpa using (h q none).symm
  intro q
  induction q with
  | nil => simp
  | cons b q ih =>
    intro o
    rw [List.foldl_cons, ih, List.any_cons]
    by_cases e : k = b.1
    · subst e; simp
    · have : (b.1 == k) = false := by simp; exact fun h => e h.symm
      simp [e, this]
theorem up_drops : ∀ (q : Ps) {s : Ps}, Up s → Up (q.foldl (fun s b => drop b.1 s) s)
  | [], _, h => h
  | b :: q, _, h => up_drops q (h.drop b.1)
theorem deletes_eq (p q : Ps) : diffI (opOf mN) (treeP p) (treeP q) = q.foldl (fun s b => drop b.1 s) (treeP p) :=
  ((up_treeP p).diffI _ _).ext (up_drops q (up_treeP p)) fun k => by
    rw [look_dN (up_treeP p), look_drops, any_look]
theorem ac_enc (a : Ac) : (ac a).length = 11 ∧ ∀ u ∈ ac a, u.oneCell' = true := ⟨rfl, fun u hu => by
  simp only [ac, List.mem_cons, List.not_mem_nil, or_false] at hu
  rcases hu with rfl | rfl | rfl | rfl | rfl | rfl | rfl | rfl | rfl | rfl | rfl <;> rfl⟩
abbrev OwnAc := @Own Ac 11 ac 47
theorem tyAc : ElTy 38 47 11 88 := elTy_of (z := .agg #[.int .i64 0, .int .i64 0, .int .i64 0, .int .i32 0, .int .i64 0, .bool false, .int .i64 0, .int .i64 0, .int .i64 0, .int .i64 0, .int .i64 0]) (by kernel_rfl) (by kernel_rfl) rfl (by decide)

set_option maxRecDepth 100000 in
set_option maxHeartbeats 1000000 in
theorem FnDeletes_walk (w : World) (vp : Value) (p : Ps) (hp : SlP w vp p) (lp : p.length ≤ 8796093021952) (wp : KeysW p) (_dp : DataR p) (bp : p.length ≤ 1048576) (vq : Value) (q : Ps) (hq : SlP w vq q) (lq : q.length ≤ 8796093021952) (wq : KeysW q) (_dq : DataR q) (bq : q.length ≤ 1048576) :
    Calls Try.prog 6 #[vp, vq] w fun e w' => e = .returned (.bool true) ∧ Kept Non w w' := by
  obtain ⟨pa, pcc, rfl⟩ := hp.form
  obtain ⟨qa, qcc, rfl⟩ := hq.form
  have HWp := hid0 wp
  have HWq := hid0 wq
  have G0 := hid0 (And.intro (Kept.refl Non w) (And.intro hp hq))
  have HLp := hid0 (treeP_len0 wp)
  clear hp hq wp wq
  cases hkp : keyedB p with
  | false =>
    have HKp := hid0 hkp
    clear hkp
    go_enter Try.func6, Try.ntmps6
    go_wp2_with fail
    refine (keyed_any _ _ p G0.out.2.1 (by omega)).mono ?_
    rintro e W1 ⟨rfl, g⟩
    have G1 := hid0 (And.intro (G0.out.1.trans g) (And.intro (G0.out.2.1.ext g) (G0.out.2.2.ext g)))
    clear g G0
    rw [HKp.out]
    go_wp2
    go_ret
    exact ⟨rfl, G1.out.1⟩
  | true =>
    have HKp := hid0 hkp
    clear hkp
    cases hkq : keyedB q with
    | false =>
      have HKq := hid0 hkq
      clear hkq
      go_enter Try.func6, Try.ntmps6
      go_wp2_with fail
      refine (keyed_any _ _ p G0.out.2.1 (by omega)).mono ?_
      rintro e W1 ⟨rfl, g⟩
      have G1 := hid0 (And.intro (G0.out.1.trans g) (And.intro (G0.out.2.1.ext g) (G0.out.2.2.ext g)))
      clear g G0
      rw [HKp.out]
      go_wp2_with fail
      refine (keyed_any _ _ q G1.out.2.2 (by omega)).mono ?_
      rintro e W2 ⟨rfl, g⟩
      have G2 := hid0 (And.intro (G1.out.1.trans g) (And.intro (G1.out.2.1.ext g) (G1.out.2.2.ext g)))
      clear g G1
      rw [HKq.out]
      go_wp2
      go_ret
      exact ⟨rfl, G2.out.1⟩
    | true =>
      have HKq := hid0 hkq
      clear hkq
      go_enter Try.func6, Try.ntmps6
      go_wp2_with fail
      refine (keyed_any _ _ p G0.out.2.1 (by omega)).mono ?_
      rintro e W1 ⟨rfl, g⟩
      have G1 := hid0 (And.intro (G0.out.1.trans g) (And.intro (G0.out.2.1.ext g) (G0.out.2.2.ext g)))
      clear g G0
      rw [HKp.out]
      go_wp2_with fail
      refine (keyed_any _ _ q G1.out.2.2 (by omega)).mono ?_
      rintro e W2 ⟨rfl, g⟩
      have G2 := hid0 (And.intro (G1.out.1.trans g) (And.intro (G1.out.2.1.ext g) (G1.out.2.2.ext g)))
      clear g G1
      rw [HKq.out]
      go_wp2
      go_loopg [5, 25] (p.length) (fun n o i wr => ∃ k : Nat, k + n = p.length ∧ i = .int .i64 k ∧ Kept Non W2 wr ∧ OwnAc W2.heap.size wr o (actsA p k))
      case atStart => exact ⟨0, by simp, rfl, Kept.refl _ _, Own.nil _⟩
      case round =>
        obtain ⟨k, hk, rfl, hK, hO⟩ := hrel
        have HK := hid0 (And.intro hK hO)
        have hsz := hK.size
        by_cases hlt : k < p.length
        · obtain ⟨b, off, rfl, _, c0, c1⟩ := (G2.out.2.1.ext hK).pair (Kept.refl _ _) k hlt
          have HLn : Hid ((actsA p k).length + 1 ≤ 1048577) := by show _ ≤ _; rw [actsA_len]; omega
          clear hK hO
          go_wp2_with (at_builtin; refine wpList_app2 rfl (.tmp 30) (.tmp 37) rfl tyAc ac_enc W2.heap.size _ _ rfl ((HK.out.2.alloc _).alloc _) (wr.heap.size + 1) (⟨0, k, 0, p[k].1, p[k].2, mx0⟩ : Ac) rfl (new_cells (cs := ac ⟨0, k, 0, p[k].1, p[k].2, mx0⟩) (by simp)) (by have := HLn.out; omega) (by decide) (by simp; omega) ?_)
          intro o5 w5 g1 g2
          have H5 := hid0 (And.intro g1 (((HK.out.1.alloc _).alloc _).trans' g2 (fun i hi e => by have := HK.out.2.block i e; omega)))
          clear g1 g2
          go_wp2
          go_roundg (gk - 1)
          case measure => omega
          case rel => exact ⟨k + 1, by omega, by go_num, H5.out.2, by rw [actsA_succ p k hlt]; exact H5.out.1⟩
        · have hkl : k = p.length := by omega
          rw [hkl] at hO
          have H0 := hid0 (And.intro hK (show OwnAc W2.heap.size wr _ (actsB p q 0) from by simpa [actsB] using hO))
          clear hK hO HK hkl
          go_wp2
          rename World => wo
          go_loopg [5, 42] (q.length) (fun n o i wz => ∃ k : Nat, k + n = q.length ∧ i = .int .i64 k ∧ Kept Non W2 wz ∧ OwnAc W2.heap.size wz o (actsB p q k))
          case atStart => exact ⟨0, by simp, rfl, H0.out.1, H0.out.2⟩
          case round =>
            obtain ⟨j, hj, rfl, hK, hO⟩ := hrel
            have HK := hid0 (And.intro hK hO)
            have hsz2 := hK.size
            by_cases hlt2 : j < q.length
            · obtain ⟨b, off, rfl, _, c0, c1⟩ := (G2.out.2.2.ext hK).pair (Kept.refl _ _) j hlt2
              have HLn : Hid ((actsB p q j).length + 1 ≤ 2097153) := by show _ ≤ _; rw [actsB_len]; omega
              clear hK hO
              go_wp2_with (at_builtin; refine wpList_app2 rfl (.tmp 47) (.tmp 55) rfl tyAc ac_enc W2.heap.size _ _ rfl ((HK.out.2.alloc _).alloc _) (wr.heap.size + 1) (⟨1, (p.length : Int) + j, 0, q[j].1, 0, mx0⟩ : Ac) rfl (new_cells (cs := ac ⟨1, (p.length : Int) + j, 0, q[j].1, 0, mx0⟩) (by simp)) (by have := HLn.out; omega) (by decide) (by simp; omega) ?_)
              intro o5 w5 g1 g2
              have H5 := hid0 (And.intro g1 (((HK.out.1.alloc _).alloc _).trans' g2 (fun i hi e => by have := HK.out.2.block i e; omega)))
              clear g1 g2
              go_wp2
              go_roundg (gk - 1)
              case measure => omega
              case rel => exact ⟨j + 1, by omega, by go_num, H5.out.2, by rw [actsB_succ p q j hlt2]; exact H5.out.1⟩
            · have hjl : j = q.length := by omega
              rw [hjl] at hO
              have sA : SlA wr _ (actsB p q q.length) := Own.sl (fun a => (ac_enc a).1) hO
              have hal : (actsB p q q.length).length = p.length + q.length := actsB_len _ _ _
              obtain ⟨va, vc, hvf⟩ : ∃ a c, u5 = .slice a (p.length + q.length) c := by
                obtain ⟨a, c, e⟩ := sA.form
                exact ⟨a, c, by rw [e, hal]⟩
              subst hvf
              have G90 := hid0 (And.intro (G2.out.1.trans hK) (And.intro (G2.out.2.1.ext hK) (And.intro (G2.out.2.2.ext hK) sA)))
              have HPL := hid0 (played_dels (HWp.out.ok HKp.out) (HWq.out.ok HKq.out))
              have HAW := hid0 (actsW_dels (HWp.out.ok HKp.out) (HWq.out.ok HKq.out))
              have HKD := hid0 (fun i hi => kinds p q q.length i hi)
              have HAL := hid0 hal
              clear hK hO HK hjl sA hal
              go_wp2_with fail
              refine (no_any _).mono ?_
              rintro e W91 ⟨rfl, g⟩
              have G91 := hid0 (And.intro (G90.out.1.trans g) (And.intro (G90.out.2.1.ext g) (And.intro (G90.out.2.2.1.ext g) (G90.out.2.2.2.ext g))))
              clear g G90
              go_wp2_with fail
              refine (IDifference_any _ _ _ p q mN G91.out.2.1 G91.out.2.2.1 (by omega) (by omega) (HWp.out.ok HKp.out) (HWq.out.ok HKq.out)).mono ?_
              rintro e W92 ⟨xv, cv, dv0, rfl, s1, s2, s3, s4, g⟩
              have HOX := hid0 s4
              have G92 := hid0 (And.intro (G91.out.1.trans g) (And.intro (G91.out.2.1.ext g) (And.intro (G91.out.2.2.1.ext g) (And.intro (G91.out.2.2.2.ext g) (And.intro (s1) (s2))))))
              clear g s1 s2 s3 s4 G91
              go_wp2_with fail
              refine (IHistory_any _ _ (actsB p q q.length) G92.out.2.2.2.1 (by rw [HAL.out]; omega) HAW.out HPL.out).mono ?_
              rintro e W93 ⟨ov, tv, vals, rfl, hH, sF⟩
              have hkH := hH.kept
              obtain ⟨⟨oa, oc, rfl⟩, _⟩ := hH.form (fun s => rfl)
              have G93 := hid0 (And.intro (G92.out.1.trans hkH) (And.intro (G92.out.2.1.ext hkH) (And.intro (G92.out.2.2.1.ext hkH) (And.intro (G92.out.2.2.2.1.ext hkH) (And.intro (G92.out.2.2.2.2.1.ext hkH) (And.intro (G92.out.2.2.2.2.2.ext hkH) (hH)))))))
              clear hkH hH sF G92
              have hvl : (hist (actsB p q q.length)).1.length = p.length + q.length + 1 := by
                have := (hist_len (actsB p q q.length) (actsB p q q.length).length (Nat.le_refl _)).1
                rw [List.take_length, HAL.out] at this
                exact this
              have HVL := hid0 hvl
              rw [hvl]
              obtain ⟨g1, off1, s1, rfl, hg1, hc1, hp1⟩ := G93.out.2.2.2.2.2.2.get (fun s => rfl) (p.length + q.length) (by rw [hvl]; omega)
              obtain ⟨g2, off2, s2, he, hg2, hc2, hp2⟩ := G93.out.2.2.2.2.2.2.get (fun s => rfl) p.length (by rw [hvl]; omega)
              cases he
              obtain ⟨x1, y1, z1⟩ := s1
              obtain ⟨x2, y2, z2⟩ := s2
              have v1 := hc1 _ rfl
              have v2 := hc2 _ rfl
              simp only [shv] at v1 v2
              rw [hist_at HKD.out _ (by rw [HAL.out]; omega), setB p q q.length (Nat.le_refl _) q.length (Nat.le_refl _), List.take_length, ← deletes_eq] at hp1
              rw [hist_at HKD.out _ (by rw [HAL.out]; omega), setA p q q.length p.length (Nat.le_refl _), List.take_length] at hp2
              have HP := hid0 (And.intro hp1 hp2)
              have hq1 : (((p.length + q.length + 1 : Nat) : Int) == ((p.length + q.length : Nat) : Int) + 1) = true := by simp
              have hq2 : (((p.length : Int) + (q.length : Int) + 1) == (p.length : Int) + (q.length : Int) + 1) = true := by simp
              have hi0 : (0 : Int) ≤ (p.length : Int) + (q.length : Int) := by omega
              have hi1 : (p.length : Int) + (q.length : Int) < (p.length : Int) + (q.length : Int) + 1 := by omega
              have hi2 : (p.length : Int) < (p.length : Int) + (q.length : Int) + 1 := by omega
              have hi3 : (0 : Int) ≤ (p.length : Int) := by omega
              clear hvl hc1 hc2 hp1 hp2
              go_wp2_with fail
              refine (Same_any _ _ _ (diffI (opOf mN) (treeP p) (treeP q)) (diffI (opOf mN) (treeP p) (treeP q)) G93.out.2.2.2.2.1 HP.out.1.sl (by have := Ok.length HOX.out; omega)).mono ?_
              rintro e W94 ⟨rfl, g⟩
              have v3 := (World.cell?_of_block (a := ⟨g1, off1 + p.length, none⟩) (g.block g1 hg1 (fun h => h))).trans v2
              have HPX := hid0 (HP.out.2.ext g)
              have G94 := hid0 (And.intro (G93.out.1.trans g) (And.intro (G93.out.2.1.ext g) (And.intro (G93.out.2.2.1.ext g) (And.intro (G93.out.2.2.2.1.ext g) (And.intro (G93.out.2.2.2.2.1.ext g) (And.intro (G93.out.2.2.2.2.2.1.ext g) (G93.out.2.2.2.2.2.2.ext g)))))))
              clear g G93
              rw [decide_eq_true (rfl : diffI (opOf mN) (treeP p) (treeP q) = diffI (opOf mN) (treeP p) (treeP q))]
              clear v1 v2
              go_wp2_with fail
              refine (Same_any _ _ _ (treeP p) (treeP p) G94.out.2.2.2.2.2.1 HPX.out.sl (by have := HLp.out; omega)).mono ?_
              rintro e W95 ⟨rfl, g⟩
              have G95 := hid0 (And.intro (G94.out.1.trans g) (And.intro (G94.out.2.1.ext g) (And.intro (G94.out.2.2.1.ext g) (And.intro (G94.out.2.2.2.1.ext g) (And.intro (G94.out.2.2.2.2.1.ext g) (And.intro (G94.out.2.2.2.2.2.1.ext g) (G94.out.2.2.2.2.2.2.ext g)))))))
              clear g G94
              rw [decide_eq_true (rfl : treeP p = treeP p)]
              go_wp2
              go_ret
              exact ⟨rfl, G95.out.1⟩

end Go.Proofs.Ytehegllgaiehfaa
