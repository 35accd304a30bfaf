/- VisitInOrder with the function that collects pairs; impl.pairs. -/
import Derived.Test.YtehegllgaiehfaaFnd
import Derived.Deep.RegionHeld3
import Derived.Deep.RegionLaw
namespace Go.Proofs.Ytehegllgaiehfaa
open Go.RowKit

/-- APPEND as a step of a region that draws its order -/
theorem step_app {α : Type} {sz bytes t E : Nat} {enc : α → List Value} {ops : Array Oper} {o : Oper} {a : Act} {w : World} {K : Act → World → Prop} {Q : Exit → Act → World → Prop} {E0 : Prop} (hgd : o.guard = none) (s x : Operand)
    (ho : o.op = .call { callee := .builtin .append, args := #[s, x], argTypes := #[t, t] }) (hty : ElTy t E sz bytes) (henc : ∀ x : α, (enc x).length = sz ∧ ∀ u ∈ enc x, u.oneCell' = true)
    (base : Nat) (v : Value) (xs : List α) (hs : a.eval s = v) (hown : Own sz enc E base w v xs) (nb : Nat) (y : α) (hx : a.eval x = .slice (some ⟨nb, 0, none⟩) 1 1) (hy : ∀ j u, (enc y)[j]? = some u → w.cell? ⟨nb, j, none⟩ = some u)
    (hlen : (xs.length + 1) * bytes ≤ 140737488355328) (hpos : 0 < bytes) (hbase : base ≤ w.heap.size)
    (h : ∀ g cap w', Own sz enc E base w' (.slice (some ⟨g, 0, none⟩) (xs.length + 1) cap) (xs ++ [y]) → Kept (fun k => base ≤ k) w w' → K (a.put o.dst (.slice (some ⟨g, 0, none⟩) (xs.length + 1) cap)) w') :
    if Region.wanted o (yielded ops a.tmps) = true then Oper.wp Try.prog o a w K Q else E0 := by
  have hw : Region.wanted o (yielded ops a.tmps) = true := by simp [Region.wanted, hgd]
  rw [if_pos hw]
  obtain ⟨i, z, h1, h2, h3, h4, h5, h6, h7⟩ := hty.ex
  have hl : xs.length + 1 ≤ maxLen := by
    have : (xs.length + 1) * 1 ≤ (xs.length + 1) * bytes := Nat.mul_le_mul_left _ hpos
    unfold maxLen; omega
  refine wp_append_own w s x t ho base E i z sz bytes h1 h2 h3 h4 h5 h6 h7 v xs.length (xs.flatMap enc) hs hown.own ⟨nb, 0, none⟩ 1 1 (enc y) hx (by rw [(henc y).1, Nat.one_mul]) (fun j u hj => ?_) (henc y).2 hl hlen hbase ?_
  · have := hy j u hj
    unfold Addr.add
    split
    · rename_i e; subst e; exact this
    · simpa using this
  · intro v' w' g1 g2 _
    have g1' : Own sz enc E base w' v' (xs ++ [y]) := ⟨by simpa using g1⟩
    rcases g1.2 with ⟨_, hn⟩ | ⟨g, cap, cur, hv, _⟩
    · omega
    · subst hv
      exact h g cap w' g1' ⟨g2.os, g2.tape, g2.output, g2.size, fun k hk hn => g2.block k hk (fun e => hn (hown.block k e.symm))⟩

theorem Own.drew {α : Type} {sz : Nat} {enc : α → List Value} {E base : Nat} {w : World} {v : Value} {xs : List α} (h : Own sz enc E base w v xs) : Own sz enc E base w.drew v xs := h.ext' (Kept.refl _ _).drew

/-- the variable that collects pairs -/
structure Coll (w : World) (lb : Nat) (xs : List (Int × Int)) : Prop where
  ex : ∃ v, w.heap[lb]? = some (.cells #[v] 22 (0, 0)) ∧ OwnP (lb + 1) w v xs

def CollPost (w : World) (lb : Nat) (xs : List (Int × Int)) (e : Ending) (w' : World) : Prop := e = .returned (.tuple #[]) ∧ Coll w' lb xs ∧ Kept (fun b => lb ≤ b) w w'

set_option maxRecDepth 100000 in
set_option maxHeartbeats 1000000 in
theorem pairs1_any (w : World) (lb : Nat) (k d : Int) (xs : List (Int × Int)) (h : Coll w lb xs) (hl : xs.length ≤ 8589934592) :
    Calls Try.prog 62 #[.int .i32 k, .iface 3 (.int .i64 d), .pointer (some ⟨lb, 0, none⟩)] w (CollPost w lb (xs ++ [(k, d)])) := by
  obtain ⟨v, hb, hO⟩ := h.ex
  have c0 : w.cell? ⟨lb, 0, none⟩ = some v := by rw [cell_of hb]; rfl
  have f0 : w.frozen? ⟨lb, 0, none⟩ = false := frozen_of hb 0
  have hlt : lb < w.heap.size := block_lt hb
  have hne : lb ≠ w.heap.size := Nat.ne_of_lt hlt
  have ha := assert_int
  have HO := hid (And.intro hO hb)
  obtain ⟨va, vn, vc, rfl⟩ : ∃ a n c, v = .slice a n c := by
    obtain ⟨a, c, e⟩ := (OwnP.sl hO).form
    exact ⟨a, _, c, e⟩
  clear h hO hb
  go_enter Try.func62, Try.ntmps62
  go_wp2
  go_region_law ((refine step_app (by rfl) _ _ (by rfl) tyP pc_enc (lb + 1) _ xs (by simp [Act.eval]) (HO.out.1.alloc _).drew w.heap.size (k, d) (by simp [Act.eval]) (new_cells (cs := pc (k, d)) rfl) (by omega) (by decide) (by simp; omega) ?_; intro gg cap w1 hown1 hkept1; have hz1 : w1.frozen? ⟨lb, 0, none⟩ = false := (World.frozen?_of_block (a := ⟨lb, 0, none⟩) (hkept1.block lb (by simp; omega) (by show ¬ (lb + 1 ≤ lb); omega))).trans (by simp [World.frozen?_alloc_old, hne, f0]); have hc1 : w1.cell? ⟨lb, 0, none⟩ = some (.slice va vn vc) := (World.cell?_of_block (a := ⟨lb, 0, none⟩) (hkept1.block lb (by simp; omega) (by show ¬ (lb + 1 ≤ lb); omega))).trans (by simp [World.cell?_alloc_old, hne, c0])))
  all_goals
    go_end0
    refine ⟨rfl, ⟨.slice (some ⟨gg, 0, none⟩) (xs.length + 1) cap, ?_, ?_⟩, ?_⟩
    · exact set_block ((hkept1.block lb (by simp; omega) (by show ¬ (lb + 1 ≤ lb); omega)).trans ((alloc_old _ hlt).trans HO.out.2)) 0 _
    · exact hown1.ext (S := One lb) ((Kept.refl (One lb) w1).setOne 0 _) (fun b hb e => by have : b = lb := e; omega)
    · refine Kept.setCell ?_ _ _ (fun _ => Nat.le_refl _)
      exact (((Kept.refl _ w).alloc _).drew).trans' hkept1 (fun i _ h => Nat.le_of_succ_le h)

theorem Coll.lt {w : World} {lb : Nat} {xs : List (Int × Int)} (h : Coll w lb xs) : lb < w.heap.size := by
  obtain ⟨v, hb, _⟩ := h.ex
  exact block_lt hb
theorem Coll.drew {w : World} {lb : Nat} {xs : List (Int × Int)} (h : Coll w lb xs) : Coll w.drew lb xs := by
  obtain ⟨v, hb, ho⟩ := h.ex
  exact ⟨v, hb, ho.drew⟩

/-- the pairs of a subtree -/
theorem map_split {l1 l2 : List (Int × Value)} {a : Int × Value} {ps : List (Int × Int)} (h : l1 ++ a :: l2 = ps.map en) : ∃ p1 p p2, ps = p1 ++ p :: p2 ∧ l1 = p1.map en ∧ a = en p ∧ l2 = p2.map en := by
  obtain ⟨p1, q, rfl, h1, h2⟩ := List.map_eq_append_iff.1 h.symm
  obtain ⟨p, p2, rfl, h3, h4⟩ := List.map_eq_cons_iff.1 h2
  exact ⟨p1, p, p2, rfl, h1.symm, h3.symm, h4.symm⟩

def FnV (lb : Nat) : Value := .func (.func 62) #[] #[.pointer (some ⟨lb, 0, none⟩)]

set_option maxRecDepth 100000 in
set_option maxHeartbeats 1000000 in
theorem visit_any (lb : Nat) : ∀ (T : Tr) (w : World) (ps xs : List (Int × Int)), T ≠ .nil → In w T → toL T = ps.map en → (∀ b, Blk b T → b < lb) → Coll w lb xs → xs.length + ps.length ≤ 8589934592 →
    Calls Try.prog 86 #[T.ptr, .func (.func 62) #[] #[.pointer (some ⟨lb, 0, none⟩)]] w (CollPost w lb (xs ++ ps)) := by
  intro T
  induction T with
  | nil => intro w ps xs h; exact absurd rfl h
  | node b o a l r ihl ihr =>
    intro w ps xs _ hi hL hlb hC hn
    obtain ⟨k, dv0, h⟩ := a
    have ho : o = 0 := hi.1
    subst ho
    obtain ⟨p1, p, p2, rfl, e1, e2, e3⟩ := map_split hL
    simp only [en, Prod.mk.injEq] at e2
    obtain ⟨rfl, rfl⟩ := e2
    have keep : ∀ (W : World), Kept (fun b => lb ≤ b) w W → ∀ {X : Tr}, In w X → (∀ c, Blk c X → c < lb) → In W X := fun W hK X hx hb => hx.kept hK (fun c hc hge => by have := hb c hc; omega)
    have HL : Hid (l ≠ .nil → ∀ W, Kept (fun b => lb ≤ b) w W → ∀ ys, Coll W lb ys → ys.length ≤ xs.length → Calls Try.prog 86 #[l.ptr, .func (.func 62) #[] #[.pointer (some ⟨lb, 0, none⟩)]] W (CollPost W lb (ys ++ p1))) :=
      fun hne W hK ys hY hy => ihl W p1 ys hne (keep W hK hi.2.2.1 (fun c hc => hlb c (.inr (.inl hc)))) e1 (fun c hc => hlb c (.inr (.inl hc))) hY (by simp at hn; omega)
    have HR : Hid (r ≠ .nil → ∀ W, Kept (fun b => lb ≤ b) w W → ∀ ys, Coll W lb ys → ys.length ≤ xs.length + p1.length + 1 → Calls Try.prog 86 #[r.ptr, .func (.func 62) #[] #[.pointer (some ⟨lb, 0, none⟩)]] W (CollPost W lb (ys ++ p2))) :=
      fun hne W hK ys hY hy => ihr W p2 ys hne (keep W hK hi.2.2.2 (fun c hc => hlb c (.inr (.inr hc)))) e3 (fun c hc => hlb c (.inr (.inr hc))) hY (by simp at hn; omega)
    have hB := hi.2.1
    have hblt : b < lb := hlb b (.inl rfl)
    have node : ∀ W : World, Kept (fun b => lb ≤ b) w W → NodeAt W b l.ptr r.ptr (.iface 3 (.int .i64 p.2)) p.1 h := fun W hK => nodeAt ((hK.block b (block_lt hB) (by show ¬ lb ≤ b; omega)).trans hB)
    have HN := hid node
    have HC := hid hC
    have hn' : xs.length + p1.length ≤ 8589934592 := by simp at hn; omega
    have hnil1 : l = .nil → p1 = [] := fun e => by subst e; simpa [toL] using e1.symm
    have hnil2 : r = .nil → p2 = [] := fun e => by subst e; simpa [toL] using e3.symm
    have HE := hid (And.intro hnil1 hnil2)
    clear ihl ihr hi hL hlb hC hn e1 e3 keep hB node hnil1 hnil2 hblt
    simp only [Deep.BT.ptr]
    obtain ⟨t0, t1, t2, t3, t4, tf⟩ := HN.out w (Kept.refl _ _)
    cases l with
    | nil =>
      have hp1 : p1 = [] := HE.out.1 rfl
      subst hp1
      simp only [Deep.BT.ptr] at t0
      go_enter Try.func86, Try.ntmps86
      go_wp2_with fail
      refine wp_gen (fun W => Coll W lb (xs ++ []) ∧ Kept (fun b => lb ≤ b) w W) ⟨by simpa using HC.out, Kept.refl _ _⟩ ?_
      clear t0 t1 t2 t3 t4 tf
      rintro W ⟨hC, hK⟩
      have HW := hid (And.intro hC hK)
      obtain ⟨t0, t1, t2, t3, t4, tf⟩ := HN.out W hK
      clear hC hK
      refine wp_region_still_tail 9 (by kernel_rfl) (by kernel_rfl) ?_
      simp only [List.take_succ_cons, List.take_zero, List.drop_succ_cons, List.drop_zero]
      iterate 9 still_step
      refine wpStill_nil ?_
      go_wp2_with fail
      refine (pairs1_any _ lb p.1 p.2 (xs ++ []) HW.out.1.drew (by first | (simp; omega) | (simp; done))).mono ?_
      rintro e W2 ⟨rfl, g1, g2⟩
      have HW2 := hid (And.intro g1 ((HW.out.2.drew).trans g2))
      clear g1 g2 t0 t1 t2 t3 t4 tf
      obtain ⟨t0, t1, t2, t3, t4, tf⟩ := HN.out W2 HW2.out.2
      cases r with
      | nil =>
        simp only [Deep.BT.ptr] at t1
        have HP : Hid (p2 = []) := HE.out.2 rfl
        go_wp2
        go_end0
        rw [CollPost, HP.out]
        exact ⟨rfl, by simpa using HW2.out.1, HW2.out.2⟩
      | node br orr ar rl rr =>
        simp only [Deep.BT.ptr] at t1 HR
        go_wp2_with fail
        refine (HR.out (by simp) _ HW2.out.2 _ HW2.out.1 (by first | (simp; omega) | (simp; done))).mono ?_
        rintro e W3 ⟨rfl, g1, g2⟩
        have HW3 := hid (And.intro g1 (HW2.out.2.trans g2))
        clear g1 g2
        go_wp2
        go_end0
        exact ⟨rfl, by simpa using HW3.out.1, HW3.out.2⟩
    | node bl ol al ll lr =>
      simp only [Deep.BT.ptr] at t0 HL
      go_enter Try.func86, Try.ntmps86
      go_wp2_with fail
      refine (HL.out (by simp) _ (Kept.refl _ _) _ HC.out (Nat.le_refl _)).mono ?_
      rintro e W0 ⟨rfl, g1, g2⟩
      have HW0 := hid (And.intro g1 g2)
      clear g1 g2 t0 t1 t2 t3 t4 tf
      obtain ⟨t0, t1, t2, t3, t4, tf⟩ := HN.out W0 HW0.out.2
      go_wp2_with fail
      refine wp_gen (fun W => Coll W lb (xs ++ p1) ∧ Kept (fun b => lb ≤ b) w W) ⟨HW0.out.1, HW0.out.2⟩ ?_
      clear t0 t1 t2 t3 t4 tf
      rintro W ⟨hC, hK⟩
      have HW := hid (And.intro hC hK)
      obtain ⟨t0, t1, t2, t3, t4, tf⟩ := HN.out W hK
      clear hC hK
      refine wp_region_still_tail 9 (by kernel_rfl) (by kernel_rfl) ?_
      simp only [List.take_succ_cons, List.take_zero, List.drop_succ_cons, List.drop_zero]
      iterate 9 still_step
      refine wpStill_nil ?_
      go_wp2_with fail
      refine (pairs1_any _ lb p.1 p.2 (xs ++ p1) HW.out.1.drew (by first | (simp; omega) | (simp; done))).mono ?_
      rintro e W2 ⟨rfl, g1, g2⟩
      have HW2 := hid (And.intro g1 ((HW.out.2.drew).trans g2))
      clear g1 g2 t0 t1 t2 t3 t4 tf
      obtain ⟨t0, t1, t2, t3, t4, tf⟩ := HN.out W2 HW2.out.2
      cases r with
      | nil =>
        simp only [Deep.BT.ptr] at t1
        have HP : Hid (p2 = []) := HE.out.2 rfl
        go_wp2
        go_end0
        rw [CollPost, HP.out]
        exact ⟨rfl, by simpa using HW2.out.1, HW2.out.2⟩
      | node br orr ar rl rr =>
        simp only [Deep.BT.ptr] at t1 HR
        go_wp2_with fail
        refine (HR.out (by simp) _ HW2.out.2 _ HW2.out.1 (by first | (simp; omega) | (simp; done))).mono ?_
        rintro e W3 ⟨rfl, g1, g2⟩
        have HW3 := hid (And.intro g1 (HW2.out.2.trans g2))
        clear g1 g2
        go_wp2
        go_end0
        exact ⟨rfl, by simpa using HW3.out.1, HW3.out.2⟩

def PairsPost (w : World) (ps : List (Int × Int)) (e : Ending) (w' : World) : Prop := NewP w ps e w'

set_option maxRecDepth 100000 in
theorem pairs_any (w : World) (b o : Nat) (ps : List (Int × Int)) (h : TreeAt w b o ps) :
    Calls Try.prog 31 #[.pointer (some ⟨b, o, none⟩)] w (NewP w ps) := by
  obtain ⟨T, h0, h1, hg⟩ := h.ex
  have hb : b < w.heap.size := World.block_lt_of_cell? _ _ h0
  have hne : b ≠ w.heap.size := Nat.ne_of_lt hb
  have hlen := hg.ok.length
  obtain ⟨W, hW⟩ : ∃ W : World, W = w.alloc (.cells #[.slice none 0 0] 22) := ⟨_, rfl⟩
  have hK : Kept Non w W := by rw [hW]; exact (Kept.refl _ _).alloc _
  have hC : Coll W w.heap.size [] := by rw [hW]; exact ⟨_, alloc_new _ _, Own.nil _⟩
  have hsz : W.heap.size = w.heap.size + 1 := by rw [hW]; simp
  have cW : W.cell? ⟨b, o, none⟩ = some T.ptr := (World.cell?_of_block (a := ⟨b, o, none⟩) (hK.block b hb (fun h => h))).trans h0
  have HV : Hid (T ≠ .nil → Calls Try.prog 86 #[T.ptr, .func (.func 62) #[] #[.pointer (some ⟨w.heap.size, 0, none⟩)]] W (CollPost W w.heap.size ps)) := fun hne => by
    have := visit_any w.heap.size T W ps [] hne (hg.inn.ext hK) hg.lst (fun c hc => hg.inn.blk_lt hc) hC (by simp; omega)
    simpa using this
  have hnil : T = .nil → ps = [] := fun e => by
    subst e
    have := hg.lst
    simpa [toL] using this.symm
  have HE := hid hnil
  have HT : Hid (Calls Try.prog 61 #[.pointer (some ⟨b, o, none⟩), .func (.func 62) #[] #[.pointer (some ⟨w.heap.size, 0, none⟩)]] W (CollPost W w.heap.size ps)) := by
    have HC := hid hC
    clear h hg h0 h1 hK hC hW hlen hnil hb hne hsz
    cases T with
    | nil =>
      simp only [Deep.BT.ptr] at cW
      have HP : Hid (ps = []) := HE.out rfl
      go_enter Try.func61, Try.ntmps61
      go_wp2
      refine bodyPost_ret (results_none rfl _ _ _) rfl ?_
      rw [CollPost, HP.out]
      exact ⟨rfl, HC.out, Kept.refl _ _⟩
    | node b2 o2 a2 l2 r2 =>
      simp only [Deep.BT.ptr] at cW HV
      go_enter Try.func61, Try.ntmps61
      go_wp2_with fail
      refine (HV.out (by simp)).mono ?_
      rintro e W3 ⟨rfl, g1, g2⟩
      have HW3 := hid (And.intro g1 g2)
      clear g1 g2
      go_wp2
      go_end0
      exact ⟨rfl, HW3.out.1, HW3.out.2⟩
  have HK := hid hK
  have HWW := hid hW
  clear h hg h0 h1 hK hC hW hlen hnil hb hne hsz HV HE cW
  go_enter Try.func31, Try.ntmps31
  go_wp2_with fail
  rw [← HWW.out]
  refine HT.out.mono ?_
  rintro e W3 ⟨rfl, ⟨v, g1, g2⟩, g3⟩
  obtain ⟨va, vc, hv⟩ := (OwnP.sl g2).form
  subst hv
  have c0 : W3.cell? ⟨w.heap.size, 0, none⟩ = some (.slice va ps.length vc) := by rw [cell_of g1]; rfl
  have HW3 := hid (And.intro g2 g3)
  clear g1 g2 g3
  go_wp2
  go_ret
  refine ⟨_, rfl, HW3.out.1.mono (by omega), HK.out.trans' HW3.out.2 (fun i hi hge => by omega)⟩

end Go.Proofs.Ytehegllgaiehfaa
