/- The walk of FnNeighbours. -/
import Derived.Test.YtlmbgkgnbebkiaaWk
namespace Go.Proofs.Ytlmbgkgnbebkiaa
open Go.RowKit

theorem fnone {P : Int × Int → Bool} (ys : Ps) (h : ∀ a ∈ ys, P a = false) : ys.find? P = none := List.find?_eq_none.2 fun a ha => by rw [h a ha]; decide
theorem fnil {P : Int × Int → Bool} (ys : Ps) (h : ∀ a ∈ ys, P a = false) : ys.filter P = [] := List.filter_eq_nil_iff.2 fun a ha => by rw [h a ha]; decide
theorem fall {P : Int × Int → Bool} (ys : Ps) (h : ∀ a ∈ ys, P a = true) : ys.filter P = ys := List.filter_eq_self.2 h
theorem up_parts (x : Int) : ∀ {xs : Ps}, Up xs → ∃ qs m rs : Ps, xs = qs ++ (m ++ rs) ∧ (∀ a ∈ qs, a.1 < x) ∧ (∀ a ∈ rs, x < a.1) ∧ (m = [] ∨ ∃ d, m = [(x, d)])
  | [], _ => ⟨[], [], [], rfl, by simp, by simp, .inl rfl⟩
  | a :: xs, h => by
    obtain ⟨h1, h2⟩ := List.pairwise_cons.1 h
    rcases Int.lt_trichotomy a.1 x with c | c | c
    · obtain ⟨qs, m, rs, e, f, g, k⟩ := up_parts x h2
      refine ⟨a :: qs, m, rs, by rw [e]; rfl, fun b hb => ?_, g, k⟩
      rcases List.mem_cons.1 hb with rfl | hb
      · exact c
      · exact f b hb
    · exact ⟨[], [a], xs, rfl, by simp, fun b hb => by have := h1 b hb; omega, .inr ⟨a.2, by rw [← c]⟩⟩
    · refine ⟨[], [], a :: xs, rfl, by simp, fun b hb => ?_, .inl rfl⟩
      rcases List.mem_cons.1 hb with rfl | hb
      · exact c
      · have := h1 b hb; omega
/-- what lies about a key -/
structure Abt (x : Int) (xs : Ps) (M L H : Option (Int × Int)) : Prop where
  here : findP x xs = M
  low : glbP x false xs = L
  high : lubP x false xs = H
  below : glbP x true xs = M.or L
  above : lubP x true xs = M.or H
  up : ∀ l, L = some l → lubP l.1 false xs = M.or H
  down : ∀ h, H = some h → glbP h.1 false xs = M.or L
  least : M = none → L = none → xs.head? = H
  most : M = none → H = none → xs.getLast? = L
  key : ∀ a, M = some a → a.1 = x
  mem : ∀ l, L = some l → l ∈ xs
theorem abt (x : Int) {xs : Ps} (h : Up xs) : ∃ M L H, Abt x xs M L H := by
  obtain ⟨qs, m, rs, e, hq, hr, hm⟩ := up_parts x h
  have hmm : ∀ a ∈ m, a.1 = x := by
    rcases hm with rfl | ⟨d, rfl⟩ <;> simp
  have hml : m.getLast? = m.head? := by
    rcases hm with rfl | ⟨d, rfl⟩ <;> rfl
  refine ⟨m.head?, qs.getLast?, rs.head?, ?_, ?_, ?_, ?_, ?_, ?_, ?_, ?_, ?_, ?_, ?_⟩
  · rw [e]
    unfold findP
    rw [List.find?_append, List.find?_append, fnone qs (fun a ha => by have := hq a ha; simp; omega), fnone rs (fun a ha => by have := hr a ha; simp; omega)]
    rcases hm with rfl | ⟨d, rfl⟩ <;> simp
  · rw [e]
    unfold glbP
    rw [List.filter_append, List.filter_append, fall qs (fun a ha => by have := hq a ha; simp; omega), fnil m (fun a ha => by have := hmm a ha; simp; omega), fnil rs (fun a ha => by have := hr a ha; simp; omega)]
    simp
  · rw [e]
    unfold lubP
    rw [List.find?_append, List.find?_append, fnone qs (fun a ha => by have := hq a ha; simp; omega), fnone m (fun a ha => by have := hmm a ha; simp; omega)]
    cases rs with
    | nil => rfl
    | cons r rs => rw [List.find?_cons_of_pos (by have := hr r (List.mem_cons_self ..); simp; omega)]; rfl
  · rw [e]
    unfold glbP
    rw [List.filter_append, List.filter_append, fall qs (fun a ha => by have := hq a ha; simp; omega), fall m (fun a ha => by have := hmm a ha; simp; omega), fnil rs (fun a ha => by have := hr a ha; simp; omega), List.append_nil, List.getLast?_append, hml]
  · rw [e]
    unfold lubP
    rw [List.find?_append, List.find?_append, fnone qs (fun a ha => by have := hq a ha; simp; omega), Option.none_or]
    rcases hm with rfl | ⟨d, rfl⟩
    · cases rs with
      | nil => rfl
      | cons r rs => rw [List.find?_cons_of_pos (by have := hr r (List.mem_cons_self ..); simp; omega)]; rfl
    · simp
  · intro l hl
    obtain ⟨ys, rfl⟩ := List.getLast?_eq_some_iff.1 hl
    rw [lub_next h (show xs = ys ++ l :: (m ++ rs) by rw [e]; simp), List.head?_append]
  · intro g hg
    cases rs with
    | nil => simp at hg
    | cons r rs =>
      simp only [List.head?_cons, Option.some.injEq] at hg
      subst hg
      rw [glb_next h (show xs.reverse = rs.reverse ++ r :: (qs ++ m).reverse by rw [e]; simp), List.head?_reverse, List.getLast?_append, hml]
  · intro h1 h2
    rcases hm with rfl | ⟨d, rfl⟩
    · rw [List.getLast?_eq_none_iff] at h2
      rw [e, h2]; rfl
    · simp at h1
  · intro h1 h2
    rcases hm with rfl | ⟨d, rfl⟩
    · rw [List.head?_eq_none_iff] at h2
      rw [e, h2]; simp
    · simp at h1
  · intro a ha
    exact hmm a (List.mem_of_head? ha)
  · intro l hl
    rw [e]
    exact List.mem_append_left _ (List.mem_of_getLast? hl)
theorem fd3 {W W' : World} {f g h : Fd} (hk : Kept Non (((W.alloc (.cells #[.int .i32 f.1, .int .i64 f.2.1, .bool f.2.2] 36)).alloc (.cells #[.int .i32 g.1, .int .i64 g.2.1, .bool g.2.2] 36)).alloc (.cells #[.int .i32 h.1, .int .i64 h.2.1, .bool h.2.2] 36)) W') :
    FdAt W' W.heap.size f ∧ FdAt W' (W.heap.size + 1) g ∧ FdAt W' (W.heap.size + 1 + 1) h := by
  refine ⟨FdAt.ext ⟨alloc_new _ _⟩ ((((Kept.refl _ _).alloc _).alloc _).trans hk), FdAt.ext (w := (W.alloc (.cells #[.int .i32 f.1, .int .i64 f.2.1, .bool f.2.2] 36)).alloc (.cells #[.int .i32 g.1, .int .i64 g.2.1, .bool g.2.2] 36)) ⟨?_⟩ (((Kept.refl _ _).alloc _).trans hk), FdAt.ext ⟨?_⟩ hk⟩
  · have := alloc_new (W.alloc (.cells #[.int .i32 f.1, .int .i64 f.2.1, .bool f.2.2] 36)) (.cells #[.int .i32 g.1, .int .i64 g.2.1, .bool g.2.2] 36)
    simpa using this
  · have := alloc_new ((W.alloc (.cells #[.int .i32 f.1, .int .i64 f.2.1, .bool f.2.2] 36)).alloc (.cells #[.int .i32 g.1, .int .i64 g.2.1, .bool g.2.2] 36)) (.cells #[.int .i32 h.1, .int .i64 h.2.1, .bool h.2.2] 36)
    simpa using this
theorem fd2 {W : World} {f g : Fd} : FdAt ((W.alloc (.cells #[.int .i32 f.1, .int .i64 f.2.1, .bool f.2.2] 36)).alloc (.cells #[.int .i32 g.1, .int .i64 g.2.1, .bool g.2.2] 36)) W.heap.size f ∧ FdAt ((W.alloc (.cells #[.int .i32 f.1, .int .i64 f.2.1, .bool f.2.2] 36)).alloc (.cells #[.int .i32 g.1, .int .i64 g.2.1, .bool g.2.2] 36)) (W.heap.size + 1) g := by
  refine ⟨FdAt.ext ⟨alloc_new _ _⟩ ((Kept.refl _ _).alloc _), ⟨?_⟩⟩
  have := alloc_new (W.alloc (.cells #[.int .i32 f.1, .int .i64 f.2.1, .bool f.2.2] 36)) (.cells #[.int .i32 g.1, .int .i64 g.2.1, .bool g.2.2] 36)
  simpa using this
theorem fd_has {W : World} {b : Nat} {f : Fd} (h : FdAt W b f) (o1 o2 : Obj) : ((W.alloc o1).alloc o2).cell? ⟨b, 2, none⟩ = some (.bool f.2.2) := (h.ext (((Kept.refl _ _).alloc _).alloc _)).c2
/-- the five Founds -/
structure Five (w : World) (vp : Value) (p : Ps) (b c : Nat) (at_ low high below above : Fd) (W : World) : Prop where
  f1 : FdAt W b at_
  f2 : FdAt W (b + 1) low
  f3 : FdAt W (b + 1 + 1) high
  f4 : FdAt W c below
  f5 : FdAt W (c + 1) above
  kept : Kept Non w W
  sl : SlP W vp p
theorem Five.ext {w W W' : World} {vp : Value} {p : Ps} {b c : Nat} {a1 a2 a3 a4 a5 : Fd} (h : Five w vp p b c a1 a2 a3 a4 a5 W) (hk : Kept Non W W') : Five w vp p b c a1 a2 a3 a4 a5 W' := ⟨h.f1.ext hk, h.f2.ext hk, h.f3.ext hk, h.f4.ext hk, h.f5.ext hk, h.kept.trans hk, h.sl.ext hk⟩
theorem Five.cells {w W W' : World} {vp : Value} {p : Ps} {b c : Nat} {a1 a2 a3 a4 a5 : Fd} (h : Five w vp p b c a1 a2 a3 a4 a5 W) (hk : Kept Non W W') : W'.cell? ⟨b, 0, none⟩ = some (.int .i32 (a1.1)) ∧ W'.cell? ⟨b, 1, none⟩ = some (.int .i64 (a1.2.1)) ∧ W'.cell? ⟨b, 2, none⟩ = some (.bool (a1.2.2)) ∧ W'.cell? ⟨b + 1, 0, none⟩ = some (.int .i32 (a2.1)) ∧ W'.cell? ⟨b + 1, 1, none⟩ = some (.int .i64 (a2.2.1)) ∧ W'.cell? ⟨b + 1, 2, none⟩ = some (.bool (a2.2.2)) ∧ W'.cell? ⟨b + 1 + 1, 0, none⟩ = some (.int .i32 (a3.1)) ∧ W'.cell? ⟨b + 1 + 1, 1, none⟩ = some (.int .i64 (a3.2.1)) ∧ W'.cell? ⟨b + 1 + 1, 2, none⟩ = some (.bool (a3.2.2)) ∧ W'.cell? ⟨c, 0, none⟩ = some (.int .i32 (a4.1)) ∧ W'.cell? ⟨c, 1, none⟩ = some (.int .i64 (a4.2.1)) ∧ W'.cell? ⟨c, 2, none⟩ = some (.bool (a4.2.2)) ∧ W'.cell? ⟨c + 1, 0, none⟩ = some (.int .i32 (a5.1)) ∧ W'.cell? ⟨c + 1, 1, none⟩ = some (.int .i64 (a5.2.1)) ∧ W'.cell? ⟨c + 1, 2, none⟩ = some (.bool (a5.2.2)) ∧ Kept Non W W' := by
  have H2 := h.ext hk
  exact ⟨H2.f1.c0, H2.f1.c1, H2.f1.c2, H2.f2.c0, H2.f2.c1, H2.f2.c2, H2.f3.c0, H2.f3.c1, H2.f3.c2, H2.f4.c0, H2.f4.c1, H2.f4.c2, H2.f5.c0, H2.f5.c1, H2.f5.c2, hk⟩
set_option maxRecDepth 100000 in
set_option maxHeartbeats 1000000 in
theorem nb_111 (w : World) (vp : Value) (p : Ps) (hp : SlP w vp p) (lp : p.length ≤ 8796093021952) (HKp : Hid (keyedB p = true)) (HOK : Hid (KeysOk p)) (x : Int) (d lk ld hk hd : Int) (HA : Hid (Abt x (treeP p) (some (x, d)) (some (lk, ld)) (some (hk, hd))))  :
    Calls Try.prog 9 #[vp, .int .i32 x] w fun e w' => e = .returned (.bool true) ∧ Kept Non w w' := by
  have G0 := hid0 (And.intro (Kept.refl Non w) hp)
  clear hp
  go_enter Try.func9, Try.ntmps9
  go_wp2_with fail
  refine (keyed_any _ _ p G0.out.2 (by omega)).mono ?_
  rintro e W1 ⟨rfl, g⟩
  have G1 := hid0 (And.intro (G0.out.1.trans g) (G0.out.2.ext g))
  clear g G0
  rw [HKp.out]
  go_wp2_with fail
  refine (Find_any _ _ p x G1.out.2 (by omega) HOK.out).mono ?_
  rintro e W2 ⟨rfl, g⟩
  have G2 := hid0 (And.intro (G1.out.1.trans g) (G1.out.2.ext g))
  clear g G1
  rw [HA.out.here]
  rw [show fdAt x _ = (x, d, true) from rfl]
  simp only [fv]
  go_wp2_with fail
  refine (Glb_any _ _ p x G2.out.2 (by omega) HOK.out).mono ?_
  rintro e W3 ⟨rfl, g⟩
  have G3 := hid0 (And.intro (G2.out.1.trans g) (G2.out.2.ext g))
  clear g G2
  rw [HA.out.low]
  rw [show fdOf _ = (lk, ld, true) from rfl]
  simp only [fv]
  go_wp2_with fail
  refine (Lub_any _ _ p x G3.out.2 (by omega) HOK.out).mono ?_
  rintro e W4 ⟨rfl, g⟩
  have G4 := hid0 (And.intro (G3.out.1.trans g) (G3.out.2.ext g))
  clear g G3
  rw [HA.out.high]
  rw [show fdOf _ = (hk, hd, true) from rfl]
  simp only [fv]
  go_wp2_with fail
  refine (GlbEq_any _ _ p x (G4.out.2.ext ((((Kept.refl _ _).alloc _).alloc _).alloc _)) (by omega) HOK.out).mono ?_
  rintro e W5 ⟨rfl, g⟩
  have G5 := hid0 (And.intro ((G4.out.1.trans ((((Kept.refl _ _).alloc _).alloc _).alloc _)).trans g) (And.intro ((G4.out.2.ext ((((Kept.refl _ _).alloc _).alloc _).alloc _)).ext g) (And.intro ((fd3 (f := (x, d, true)) (g := (lk, ld, true)) (h := (hk, hd, true)) g).1) (And.intro ((fd3 (f := (x, d, true)) (g := (lk, ld, true)) (h := (hk, hd, true)) g).2.1) ((fd3 (f := (x, d, true)) (g := (lk, ld, true)) (h := (hk, hd, true)) g).2.2)))))
  clear g G4
  rw [HA.out.below]
  rw [show fdOf _ = (x, d, true) from rfl]
  simp only [fv]
  go_wp2_with fail
  refine (LubEq_any _ _ p x G5.out.2.1 (by omega) HOK.out).mono ?_
  rintro e W6 ⟨rfl, g⟩
  have G6 := hid0 (And.intro (G5.out.1.trans g) (And.intro (G5.out.2.1.ext g) (And.intro (G5.out.2.2.1.ext g) (And.intro (G5.out.2.2.2.1.ext g) (G5.out.2.2.2.2.ext g)))))
  clear g G5
  rw [HA.out.above]
  rw [show fdOf _ = (x, d, true) from rfl]
  simp only [fv]
  have h2 := fd_has G6.out.2.2.1
  go_wp2_with fail
  refine wp_gen (fun W => Five w vp p (W4.heap.size) (W6.heap.size) (x, d, true) (lk, ld, true) (hk, hd, true) (x, d, true) (x, d, true) W) ⟨G6.out.2.2.1.ext (((Kept.refl _ _).alloc _).alloc _), G6.out.2.2.2.1.ext (((Kept.refl _ _).alloc _).alloc _), G6.out.2.2.2.2.ext (((Kept.refl _ _).alloc _).alloc _), (fd2 (f := (x, d, true)) (g := (x, d, true))).1, (fd2 (f := (x, d, true)) (g := (x, d, true))).2, (G6.out.1.alloc _).alloc _, G6.out.2.1.ext (((Kept.refl _ _).alloc _).alloc _)⟩ ?_
  rintro W hF
  have HF := hid0 hF
  obtain ⟨r0, r1, r2, r3, r4, r5, r6, r7, r8, r9, r10, r11, r12, r13, r14, rk⟩ := hF.cells (Kept.refl _ _)
  obtain ⟨B, hB⟩ : ∃ B, B = W4.heap.size := ⟨_, rfl⟩
  obtain ⟨C, hC⟩ : ∃ C, C = W6.heap.size := ⟨_, rfl⟩
  rw [← hB] at HF r0 r1 r2 r3 r4 r5 r6 r7 r8 ⊢
  rw [← hC] at HF r9 r10 r11 r12 r13 r14 ⊢
  clear hF h2 hB hC G6
  go_region_held3 (fun W' => W'.cell? ⟨B, 0, none⟩ = some (.int .i32 (x)) ∧ W'.cell? ⟨B, 1, none⟩ = some (.int .i64 (d)) ∧ W'.cell? ⟨B, 2, none⟩ = some (.bool (true)) ∧ W'.cell? ⟨B + 1, 0, none⟩ = some (.int .i32 (lk)) ∧ W'.cell? ⟨B + 1, 1, none⟩ = some (.int .i64 (ld)) ∧ W'.cell? ⟨B + 1, 2, none⟩ = some (.bool (true)) ∧ W'.cell? ⟨B + 1 + 1, 0, none⟩ = some (.int .i32 (hk)) ∧ W'.cell? ⟨B + 1 + 1, 1, none⟩ = some (.int .i64 (hd)) ∧ W'.cell? ⟨B + 1 + 1, 2, none⟩ = some (.bool (true)) ∧ W'.cell? ⟨C, 0, none⟩ = some (.int .i32 (x)) ∧ W'.cell? ⟨C, 1, none⟩ = some (.int .i64 (d)) ∧ W'.cell? ⟨C, 2, none⟩ = some (.bool (true)) ∧ W'.cell? ⟨C + 1, 0, none⟩ = some (.int .i32 (x)) ∧ W'.cell? ⟨C + 1, 1, none⟩ = some (.int .i64 (d)) ∧ W'.cell? ⟨C + 1, 2, none⟩ = some (.bool (true)) ∧ Kept Non W W')
    (first | exact HF.out.cells (Kept.refl _ _).drew | (go_split_ands; exact HF.out.cells ((by assumption : Kept Non W _).trans (by assumption))))
    (first | (go_at_call 33; go_split_ands; refine (Lub_any _ _ p lk (HF.out.sl.ext (by assumption)) (by omega) HOK.out).mono ?_; rintro e WLub ⟨rfl, gLub⟩; rw [HA.out.up _ rfl]; rw [show fdOf _ = (x, d, true) from rfl]; simp only [fv]) | (go_at_call 32; go_split_ands; refine (Glb_any _ _ p hk (HF.out.sl.ext (by assumption)) (by omega) HOK.out).mono ?_; rintro e WGlb ⟨rfl, gGlb⟩; rw [HA.out.down _ rfl]; rw [show fdOf _ = (x, d, true) from rfl]; simp only [fv]))
  go_wp2
  go_ret
  go_split_ands
  exact ⟨rfl, HF.out.kept.trans (by assumption)⟩
set_option maxRecDepth 100000 in
set_option maxHeartbeats 1000000 in
theorem nb_110 (w : World) (vp : Value) (p : Ps) (hp : SlP w vp p) (lp : p.length ≤ 8796093021952) (HKp : Hid (keyedB p = true)) (HOK : Hid (KeysOk p)) (x : Int) (d lk ld : Int) (HA : Hid (Abt x (treeP p) (some (x, d)) (some (lk, ld)) (none)))  :
    Calls Try.prog 9 #[vp, .int .i32 x] w fun e w' => e = .returned (.bool true) ∧ Kept Non w w' := by
  have G0 := hid0 (And.intro (Kept.refl Non w) hp)
  clear hp
  go_enter Try.func9, Try.ntmps9
  go_wp2_with fail
  refine (keyed_any _ _ p G0.out.2 (by omega)).mono ?_
  rintro e W1 ⟨rfl, g⟩
  have G1 := hid0 (And.intro (G0.out.1.trans g) (G0.out.2.ext g))
  clear g G0
  rw [HKp.out]
  go_wp2_with fail
  refine (Find_any _ _ p x G1.out.2 (by omega) HOK.out).mono ?_
  rintro e W2 ⟨rfl, g⟩
  have G2 := hid0 (And.intro (G1.out.1.trans g) (G1.out.2.ext g))
  clear g G1
  rw [HA.out.here]
  rw [show fdAt x _ = (x, d, true) from rfl]
  simp only [fv]
  go_wp2_with fail
  refine (Glb_any _ _ p x G2.out.2 (by omega) HOK.out).mono ?_
  rintro e W3 ⟨rfl, g⟩
  have G3 := hid0 (And.intro (G2.out.1.trans g) (G2.out.2.ext g))
  clear g G2
  rw [HA.out.low]
  rw [show fdOf _ = (lk, ld, true) from rfl]
  simp only [fv]
  go_wp2_with fail
  refine (Lub_any _ _ p x G3.out.2 (by omega) HOK.out).mono ?_
  rintro e W4 ⟨rfl, g⟩
  have G4 := hid0 (And.intro (G3.out.1.trans g) (G3.out.2.ext g))
  clear g G3
  rw [HA.out.high]
  rw [show fdOf _ = (-2147483648, 0, false) from rfl]
  simp only [fv]
  go_wp2_with fail
  refine (GlbEq_any _ _ p x (G4.out.2.ext ((((Kept.refl _ _).alloc _).alloc _).alloc _)) (by omega) HOK.out).mono ?_
  rintro e W5 ⟨rfl, g⟩
  have G5 := hid0 (And.intro ((G4.out.1.trans ((((Kept.refl _ _).alloc _).alloc _).alloc _)).trans g) (And.intro ((G4.out.2.ext ((((Kept.refl _ _).alloc _).alloc _).alloc _)).ext g) (And.intro ((fd3 (f := (x, d, true)) (g := (lk, ld, true)) (h := (-2147483648, 0, false)) g).1) (And.intro ((fd3 (f := (x, d, true)) (g := (lk, ld, true)) (h := (-2147483648, 0, false)) g).2.1) ((fd3 (f := (x, d, true)) (g := (lk, ld, true)) (h := (-2147483648, 0, false)) g).2.2)))))
  clear g G4
  rw [HA.out.below]
  rw [show fdOf _ = (x, d, true) from rfl]
  simp only [fv]
  go_wp2_with fail
  refine (LubEq_any _ _ p x G5.out.2.1 (by omega) HOK.out).mono ?_
  rintro e W6 ⟨rfl, g⟩
  have G6 := hid0 (And.intro (G5.out.1.trans g) (And.intro (G5.out.2.1.ext g) (And.intro (G5.out.2.2.1.ext g) (And.intro (G5.out.2.2.2.1.ext g) (G5.out.2.2.2.2.ext g)))))
  clear g G5
  rw [HA.out.above]
  rw [show fdOf _ = (x, d, true) from rfl]
  simp only [fv]
  have h2 := fd_has G6.out.2.2.1
  go_wp2_with fail
  refine wp_gen (fun W => Five w vp p (W4.heap.size) (W6.heap.size) (x, d, true) (lk, ld, true) (-2147483648, 0, false) (x, d, true) (x, d, true) W) ⟨G6.out.2.2.1.ext (((Kept.refl _ _).alloc _).alloc _), G6.out.2.2.2.1.ext (((Kept.refl _ _).alloc _).alloc _), G6.out.2.2.2.2.ext (((Kept.refl _ _).alloc _).alloc _), (fd2 (f := (x, d, true)) (g := (x, d, true))).1, (fd2 (f := (x, d, true)) (g := (x, d, true))).2, (G6.out.1.alloc _).alloc _, G6.out.2.1.ext (((Kept.refl _ _).alloc _).alloc _)⟩ ?_
  rintro W hF
  have HF := hid0 hF
  obtain ⟨r0, r1, r2, r3, r4, r5, r6, r7, r8, r9, r10, r11, r12, r13, r14, rk⟩ := hF.cells (Kept.refl _ _)
  obtain ⟨B, hB⟩ : ∃ B, B = W4.heap.size := ⟨_, rfl⟩
  obtain ⟨C, hC⟩ : ∃ C, C = W6.heap.size := ⟨_, rfl⟩
  rw [← hB] at HF r0 r1 r2 r3 r4 r5 r6 r7 r8 ⊢
  rw [← hC] at HF r9 r10 r11 r12 r13 r14 ⊢
  clear hF h2 hB hC G6
  refine wp_region_held_drew (S := fun W' => W'.cell? ⟨B, 0, none⟩ = some (.int .i32 (x)) ∧ W'.cell? ⟨B, 1, none⟩ = some (.int .i64 (d)) ∧ W'.cell? ⟨B, 2, none⟩ = some (.bool (true)) ∧ W'.cell? ⟨B + 1, 0, none⟩ = some (.int .i32 (lk)) ∧ W'.cell? ⟨B + 1, 1, none⟩ = some (.int .i64 (ld)) ∧ W'.cell? ⟨B + 1, 2, none⟩ = some (.bool (true)) ∧ W'.cell? ⟨B + 1 + 1, 0, none⟩ = some (.int .i32 (-2147483648)) ∧ W'.cell? ⟨B + 1 + 1, 1, none⟩ = some (.int .i64 (0)) ∧ W'.cell? ⟨B + 1 + 1, 2, none⟩ = some (.bool (false)) ∧ W'.cell? ⟨C, 0, none⟩ = some (.int .i32 (x)) ∧ W'.cell? ⟨C, 1, none⟩ = some (.int .i64 (d)) ∧ W'.cell? ⟨C, 2, none⟩ = some (.bool (true)) ∧ W'.cell? ⟨C + 1, 0, none⟩ = some (.int .i32 (x)) ∧ W'.cell? ⟨C + 1, 1, none⟩ = some (.int .i64 (d)) ∧ W'.cell? ⟨C + 1, 2, none⟩ = some (.bool (true)) ∧ Kept Non W W') (by kernel_rfl) (HF.out.cells (Kept.refl _ _).drew) (fun hHeld => ?_)
  refine wpAnyH_take (i := 0) (v := ?v1) (by simp only [List.getElem?_toArray, List.getElem?_cons_zero]; rfl) (by kernel_rfl) (by kernel_rfl) (by kernel_rfl) (by exact fun _ _ _ h => h) (Or.inl ⟨by rfl, ?hy1⟩) (by assumption) ?rest1
  case hy1 => intro w hSw; (try dsimp only at hSw); go_simp; try (with_reducible rfl)
  case rest1 =>
  try simp only [Act.put, List.setIfInBounds_toArray, List.set_cons_zero, List.set_cons_succ]
  refine wpAnyH_take (i := 1) (v := ?v2) (by simp only [List.getElem?_toArray, List.getElem?_cons_succ, List.getElem?_cons_zero]; rfl) (by kernel_rfl) (by kernel_rfl) (by kernel_rfl) (by exact fun _ _ _ h => h) (Or.inl ⟨by rfl, ?hy2⟩) (by assumption) ?rest2
  case hy2 => intro w hSw; (try dsimp only at hSw); go_simp; try (with_reducible rfl)
  case rest2 =>
  try simp only [Act.put, List.setIfInBounds_toArray, List.set_cons_zero, List.set_cons_succ]
  refine wpAnyH_take (i := 2) (v := ?v3) (by simp only [List.getElem?_toArray, List.getElem?_cons_succ, List.getElem?_cons_zero]; rfl) (by kernel_rfl) (by kernel_rfl) (by kernel_rfl) (by exact fun _ _ _ h => h) (Or.inl ⟨by rfl, ?hy3⟩) (by assumption) ?rest3
  case hy3 => intro w hSw; (try dsimp only at hSw); go_simp; try (with_reducible rfl)
  case rest3 =>
  try simp only [Act.put, List.setIfInBounds_toArray, List.set_cons_zero, List.set_cons_succ]
  refine wpAnyH_take (i := 3) (v := ?v4) (by simp only [List.getElem?_toArray, List.getElem?_cons_succ, List.getElem?_cons_zero]; rfl) (by kernel_rfl) (by kernel_rfl) (by kernel_rfl) (by exact fun _ _ _ h => h) (Or.inl ⟨by rfl, ?hy4⟩) (by assumption) ?rest4
  case hy4 => intro w hSw; (try dsimp only at hSw); go_simp; try (with_reducible rfl)
  case rest4 =>
  try simp only [Act.put, List.setIfInBounds_toArray, List.set_cons_zero, List.set_cons_succ]
  refine wpAnyH_take (i := 4) (v := ?v5) (by simp only [List.getElem?_toArray, List.getElem?_cons_succ, List.getElem?_cons_zero]; rfl) (by kernel_rfl) (by kernel_rfl) (by kernel_rfl) (by exact fun _ _ _ h => h) (Or.inl ⟨by rfl, ?hy5⟩) (by assumption) ?rest5
  case hy5 => intro w hSw; (try dsimp only at hSw); go_simp; try (with_reducible rfl)
  case rest5 =>
  try simp only [Act.put, List.setIfInBounds_toArray, List.set_cons_zero, List.set_cons_succ]
  refine wpAnyH_take (i := 5) (v := ?v6) (by simp only [List.getElem?_toArray, List.getElem?_cons_succ, List.getElem?_cons_zero]; rfl) (by kernel_rfl) (by kernel_rfl) (by kernel_rfl) (by exact fun _ _ _ h => h) (Or.inl ⟨by rfl, ?hy6⟩) (by assumption) ?rest6
  case hy6 => intro w hSw; (try dsimp only at hSw); go_simp; try (with_reducible rfl)
  case rest6 =>
  try simp only [Act.put, List.setIfInBounds_toArray, List.set_cons_zero, List.set_cons_succ]
  refine wpAnyH_take (i := 6) (v := ?v7) (by simp only [List.getElem?_toArray, List.getElem?_cons_succ, List.getElem?_cons_zero]; rfl) (by kernel_rfl) (by kernel_rfl) (by kernel_rfl) (by exact fun _ _ _ h => h) (Or.inl ⟨by rfl, ?hy7⟩) (by assumption) ?rest7
  case hy7 => intro w hSw; (try dsimp only at hSw); go_simp; try (with_reducible rfl)
  case rest7 =>
  try simp only [Act.put, List.setIfInBounds_toArray, List.set_cons_zero, List.set_cons_succ]
  refine wpAnyH_take (i := 7) (v := ?v8) (by simp only [List.getElem?_toArray, List.getElem?_cons_succ, List.getElem?_cons_zero]; rfl) (by kernel_rfl) (by kernel_rfl) (by kernel_rfl) (by exact fun _ _ _ h => h) (Or.inl ⟨by rfl, ?hy8⟩) (by assumption) ?rest8
  case hy8 => intro w hSw; (try dsimp only at hSw); go_simp; try (with_reducible rfl)
  case rest8 =>
  try simp only [Act.put, List.setIfInBounds_toArray, List.set_cons_zero, List.set_cons_succ]
  refine wpAnyH_take (i := 8) (v := ?v9) (by simp only [List.getElem?_toArray, List.getElem?_cons_succ, List.getElem?_cons_zero]; rfl) (by kernel_rfl) (by kernel_rfl) (by kernel_rfl) (by exact fun _ _ _ h => h) (Or.inl ⟨by rfl, ?hy9⟩) (by assumption) ?rest9
  case hy9 => intro w hSw; (try dsimp only at hSw); go_simp; try (with_reducible rfl)
  case rest9 =>
  try simp only [Act.put, List.setIfInBounds_toArray, List.set_cons_zero, List.set_cons_succ]
  refine wpAnyH_take (i := 9) (v := ?v10) (by simp only [List.getElem?_toArray, List.getElem?_cons_succ, List.getElem?_cons_zero]; rfl) (by kernel_rfl) (by kernel_rfl) (by kernel_rfl) (by exact fun _ _ _ h => h) (Or.inl ⟨by rfl, ?hy10⟩) (by assumption) ?rest10
  case hy10 => intro w hSw; (try dsimp only at hSw); go_simp; try (with_reducible rfl)
  case rest10 =>
  try simp only [Act.put, List.setIfInBounds_toArray, List.set_cons_zero, List.set_cons_succ]
  refine wpAnyH_take (i := 10) (v := ?v11) (by simp only [List.getElem?_toArray, List.getElem?_cons_succ, List.getElem?_cons_zero]; rfl) (by kernel_rfl) (by kernel_rfl) (by kernel_rfl) (by exact fun _ _ _ h => h) (Or.inl ⟨by rfl, ?hy11⟩) (by assumption) ?rest11
  case hy11 => intro w hSw; (try dsimp only at hSw); go_simp; try (with_reducible rfl)
  case rest11 =>
  try simp only [Act.put, List.setIfInBounds_toArray, List.set_cons_zero, List.set_cons_succ]
  refine wpAnyH_take (i := 11) (v := ?v12) (by simp only [List.getElem?_toArray, List.getElem?_cons_succ, List.getElem?_cons_zero]; rfl) (by kernel_rfl) (by kernel_rfl) (by kernel_rfl) (by exact fun _ _ _ h => h) (Or.inl ⟨by rfl, ?hy12⟩) (by assumption) ?rest12
  case hy12 => intro w hSw; (try dsimp only at hSw); go_simp; try (with_reducible rfl)
  case rest12 =>
  try simp only [Act.put, List.setIfInBounds_toArray, List.set_cons_zero, List.set_cons_succ]
  refine wpAnyH_take (i := 12) (v := ?v13) (by simp only [List.getElem?_toArray, List.getElem?_cons_succ, List.getElem?_cons_zero]; rfl) (by kernel_rfl) (by kernel_rfl) (by kernel_rfl) (by exact fun _ _ _ h => h) (Or.inl ⟨by rfl, ?hy13⟩) (by assumption) ?rest13
  case hy13 => intro w hSw; (try dsimp only at hSw); go_simp; try (with_reducible rfl)
  case rest13 =>
  try simp only [Act.put, List.setIfInBounds_toArray, List.set_cons_zero, List.set_cons_succ]
  refine wpAnyH_take (i := 13) (v := ?v14) (by simp only [List.getElem?_toArray, List.getElem?_cons_succ, List.getElem?_cons_zero]; rfl) (by kernel_rfl) (by kernel_rfl) (by kernel_rfl) (by exact fun _ _ _ h => h) (Or.inl ⟨by rfl, ?hy14⟩) (by assumption) ?rest14
  case hy14 => intro w hSw; (try dsimp only at hSw); go_simp; try (with_reducible rfl)
  case rest14 =>
  try simp only [Act.put, List.setIfInBounds_toArray, List.set_cons_zero, List.set_cons_succ]
  refine wpAnyH_take (i := 14) (v := ?v15) (by simp only [List.getElem?_toArray, List.getElem?_cons_succ, List.getElem?_cons_zero]; rfl) (by kernel_rfl) (by kernel_rfl) (by kernel_rfl) (by exact fun _ _ _ h => h) (Or.inl ⟨by rfl, ?hy15⟩) (by assumption) ?rest15
  case hy15 => intro w hSw; (try dsimp only at hSw); go_simp; try (with_reducible rfl)
  case rest15 =>
  try simp only [Act.put, List.setIfInBounds_toArray, List.set_cons_zero, List.set_cons_succ]
  refine wpAnyH_take (i := 15) (v := ?v16) (by simp only [List.getElem?_toArray, List.getElem?_cons_succ, List.getElem?_cons_zero]; rfl) (by kernel_rfl) (by kernel_rfl) (by kernel_rfl) (by exact fun _ _ _ h => h) (Or.inl ⟨by rfl, ?hy16⟩) (by assumption) ?rest16
  case hy16 => intro w hSw; (try dsimp only at hSw); go_simp; try (with_reducible rfl)
  case rest16 =>
  try simp only [Act.put, List.setIfInBounds_toArray, List.set_cons_zero, List.set_cons_succ]
  refine wpAnyH_take (i := 17) (v := ?v17) (by simp only [List.getElem?_toArray, List.getElem?_cons_succ, List.getElem?_cons_zero]; rfl) (by kernel_rfl) (by kernel_rfl) (by kernel_rfl) (by exact fun _ _ _ h => h) (Or.inl ⟨by rfl, ?hy17⟩) (by assumption) ?rest17
  case hy17 => intro w hSw; (try dsimp only at hSw); go_simp; try (with_reducible rfl)
  case rest17 =>
  try simp only [Act.put, List.setIfInBounds_toArray, List.set_cons_zero, List.set_cons_succ]
  refine wpAnyH_ready (rs := [16]) (by kernel_rfl) (by simp) ?_
  refine AllReadyH.cons (by simp only [List.getElem?_toArray, List.getElem?_cons_succ, List.getElem?_cons_zero]; rfl) (fun K hK => ?_) AllReadyH.nil
  go_simp
  go_at_call 33
  refine (Lub_any _ _ p lk (HF.out.sl.ext ((Kept.refl _ _).drew)) (by omega) HOK.out).mono ?_
  rintro e WLub ⟨rfl, gLub⟩
  rw [HA.out.up _ rfl]
  rw [show fdOf _ = (x, d, true) from rfl]
  simp only [fv]
  go_wp2_with fail
  refine hK.out _ _ ?_ (fun hHeld => ?_)
  · exact HF.out.cells (((Kept.refl _ _).drew).trans gLub)
  clear hK K
  try simp only [Act.put, List.setIfInBounds_toArray, List.set_cons_zero, List.set_cons_succ]
  refine wpAnyH_take (i := 18) (v := ?v18) (by simp only [List.getElem?_toArray, List.getElem?_cons_succ, List.getElem?_cons_zero]; rfl) (by kernel_rfl) (by kernel_rfl) (by kernel_rfl) (by exact fun _ _ _ h => h) (Or.inl ⟨by rfl, ?hy18⟩) (by assumption) ?rest18
  case hy18 => intro w hSw; (try dsimp only at hSw); go_simp; try (with_reducible rfl)
  case rest18 =>
  try simp only [Act.put, List.setIfInBounds_toArray, List.set_cons_zero, List.set_cons_succ]
  refine wpAnyH_take (i := 19) (v := ?v19) (by simp only [List.getElem?_toArray, List.getElem?_cons_succ, List.getElem?_cons_zero]; rfl) (by kernel_rfl) (by kernel_rfl) (by kernel_rfl) (by exact fun _ _ _ h => h) (Or.inl ⟨by rfl, ?hy19⟩) (by assumption) ?rest19
  case hy19 => intro w hSw; (try dsimp only at hSw); go_simp; try (with_reducible rfl)
  case rest19 =>
  try simp only [Act.put, List.setIfInBounds_toArray, List.set_cons_zero, List.set_cons_succ]
  refine wpAnyH_take (i := 20) (v := ?v20) (by simp only [List.getElem?_toArray, List.getElem?_cons_succ, List.getElem?_cons_zero]; rfl) (by kernel_rfl) (by kernel_rfl) (by kernel_rfl) (by exact fun _ _ _ h => h) (Or.inl ⟨by rfl, ?hy20⟩) (by assumption) ?rest20
  case hy20 => intro w hSw; (try dsimp only at hSw); go_simp; try (with_reducible rfl)
  case rest20 =>
  try simp only [Act.put, List.setIfInBounds_toArray, List.set_cons_zero, List.set_cons_succ]
  refine wpAnyH_take (i := 21) (v := ?v21) (by simp only [List.getElem?_toArray, List.getElem?_cons_succ, List.getElem?_cons_zero]; rfl) (by kernel_rfl) (by kernel_rfl) (by kernel_rfl) (by exact fun _ _ _ h => h) (Or.inl ⟨by rfl, ?hy21⟩) (by assumption) ?rest21
  case hy21 => intro w hSw; (try dsimp only at hSw); go_simp; try (with_reducible rfl)
  case rest21 =>
  try simp only [Act.put, List.setIfInBounds_toArray, List.set_cons_zero, List.set_cons_succ]
  refine wpAnyH_take (i := 22) (v := ?v22) (by simp only [List.getElem?_toArray, List.getElem?_cons_succ, List.getElem?_cons_zero]; rfl) (by kernel_rfl) (by kernel_rfl) (by kernel_rfl) (by exact fun _ _ _ h => h) (Or.inl ⟨by rfl, ?hy22⟩) (by assumption) ?rest22
  case hy22 => intro w hSw; (try dsimp only at hSw); go_simp; try (with_reducible rfl)
  case rest22 =>
  try simp only [Act.put, List.setIfInBounds_toArray, List.set_cons_zero, List.set_cons_succ]
  refine wpAnyH_take (i := 23) (v := ?v23) (by simp only [List.getElem?_toArray, List.getElem?_cons_succ, List.getElem?_cons_zero]; rfl) (by kernel_rfl) (by kernel_rfl) (by kernel_rfl) (by exact fun _ _ _ h => h) (Or.inl ⟨by rfl, ?hy23⟩) (by assumption) ?rest23
  case hy23 => intro w hSw; (try dsimp only at hSw); go_simp; try (with_reducible rfl)
  case rest23 =>
  try simp only [Act.put, List.setIfInBounds_toArray, List.set_cons_zero, List.set_cons_succ]
  refine wpAnyH_take (i := 24) (v := ?v24) (by simp only [List.getElem?_toArray, List.getElem?_cons_succ, List.getElem?_cons_zero]; rfl) (by kernel_rfl) (by kernel_rfl) (by kernel_rfl) (by exact fun _ _ _ h => h) (Or.inl ⟨by rfl, ?hy24⟩) (by assumption) ?rest24
  case hy24 => intro w hSw; (try dsimp only at hSw); go_simp; try (with_reducible rfl)
  case rest24 =>
  try simp only [Act.put, List.setIfInBounds_toArray, List.set_cons_zero, List.set_cons_succ]
  refine wpAnyH_take (i := 25) (v := ?v25) (by simp only [List.getElem?_toArray, List.getElem?_cons_succ, List.getElem?_cons_zero]; rfl) (by kernel_rfl) (by kernel_rfl) (by kernel_rfl) (by exact fun _ _ _ h => h) (Or.inl ⟨by rfl, ?hy25⟩) (by assumption) ?rest25
  case hy25 => intro w hSw; (try dsimp only at hSw); go_simp; try (with_reducible rfl)
  case rest25 =>
  try simp only [Act.put, List.setIfInBounds_toArray, List.set_cons_zero, List.set_cons_succ]
  refine wpAnyH_take (i := 26) (v := undef) (by simp only [List.getElem?_toArray, List.getElem?_cons_succ, List.getElem?_cons_zero]; rfl) (by kernel_rfl) (by kernel_rfl) (by kernel_rfl) (by exact fun _ _ _ h => h) (Or.inr ⟨by rfl, rfl⟩) (by assumption) ?_
  try simp only [Act.put, List.setIfInBounds_toArray, List.set_cons_zero, List.set_cons_succ]
  refine wpAnyH_take (i := 27) (v := undef) (by simp only [List.getElem?_toArray, List.getElem?_cons_succ, List.getElem?_cons_zero]; rfl) (by kernel_rfl) (by kernel_rfl) (by kernel_rfl) (by exact fun _ _ _ h => h) (Or.inr ⟨by rfl, rfl⟩) (by assumption) ?_
  try simp only [Act.put, List.setIfInBounds_toArray, List.set_cons_zero, List.set_cons_succ]
  refine wpAnyH_take (i := 28) (v := undef) (by simp only [List.getElem?_toArray, List.getElem?_cons_succ, List.getElem?_cons_zero]; rfl) (by kernel_rfl) (by kernel_rfl) (by kernel_rfl) (by exact fun _ _ _ h => h) (Or.inr ⟨by rfl, rfl⟩) (by assumption) ?_
  try simp only [Act.put, List.setIfInBounds_toArray, List.set_cons_zero, List.set_cons_succ]
  refine wpAnyH_take (i := 30) (v := undef) (by simp only [List.getElem?_toArray, List.getElem?_cons_succ, List.getElem?_cons_zero]; rfl) (by kernel_rfl) (by kernel_rfl) (by kernel_rfl) (by exact fun _ _ _ h => h) (Or.inr ⟨by rfl, rfl⟩) (by assumption) ?_
  try simp only [Act.put, List.setIfInBounds_toArray, List.set_cons_zero, List.set_cons_succ]
  refine wpAnyH_take (i := 29) (v := undef) (by simp only [List.getElem?_toArray, List.getElem?_cons_succ, List.getElem?_cons_zero]; rfl) (by kernel_rfl) (by kernel_rfl) (by kernel_rfl) (by exact fun _ _ _ h => h) (Or.inr ⟨by rfl, rfl⟩) (by assumption) ?_
  try simp only [Act.put, List.setIfInBounds_toArray, List.set_cons_zero, List.set_cons_succ]
  refine wpAnyH_take (i := 31) (v := undef) (by simp only [List.getElem?_toArray, List.getElem?_cons_succ, List.getElem?_cons_zero]; rfl) (by kernel_rfl) (by kernel_rfl) (by kernel_rfl) (by exact fun _ _ _ h => h) (Or.inr ⟨by rfl, rfl⟩) (by assumption) ?_
  try simp only [Act.put, List.setIfInBounds_toArray, List.set_cons_zero, List.set_cons_succ]
  refine wpAnyH_take (i := 32) (v := ?v26) (by simp only [List.getElem?_toArray, List.getElem?_cons_succ, List.getElem?_cons_zero]; rfl) (by kernel_rfl) (by kernel_rfl) (by kernel_rfl) (by exact fun _ _ _ h => h) (Or.inl ⟨by rfl, ?hy26⟩) (by assumption) ?rest26
  case hy26 => intro w hSw; (try dsimp only at hSw); go_simp; try (with_reducible rfl)
  case rest26 =>
  try simp only [Act.put, List.setIfInBounds_toArray, List.set_cons_zero, List.set_cons_succ]
  refine wpAnyH_take (i := 33) (v := ?v27) (by simp only [List.getElem?_toArray, List.getElem?_cons_succ, List.getElem?_cons_zero]; rfl) (by kernel_rfl) (by kernel_rfl) (by kernel_rfl) (by exact fun _ _ _ h => h) (Or.inl ⟨by rfl, ?hy27⟩) (by assumption) ?rest27
  case hy27 => intro w hSw; (try dsimp only at hSw); go_simp; try (with_reducible rfl)
  case rest27 =>
  try simp only [Act.put, List.setIfInBounds_toArray, List.set_cons_zero, List.set_cons_succ]
  refine wpAnyH_take (i := 34) (v := ?v28) (by simp only [List.getElem?_toArray, List.getElem?_cons_succ, List.getElem?_cons_zero]; rfl) (by kernel_rfl) (by kernel_rfl) (by kernel_rfl) (by exact fun _ _ _ h => h) (Or.inl ⟨by rfl, ?hy28⟩) (by assumption) ?rest28
  case hy28 => intro w hSw; (try dsimp only at hSw); go_simp; try (with_reducible rfl)
  case rest28 =>
  try simp only [Act.put, List.setIfInBounds_toArray, List.set_cons_zero, List.set_cons_succ]
  refine wpAnyH_done (by kernel_rfl) ?_ _
  go_wp2
  go_ret
  exact ⟨rfl, HF.out.kept.trans (((Kept.refl _ _).drew).trans gLub)⟩
set_option maxRecDepth 100000 in
set_option maxHeartbeats 1000000 in
theorem nb_101 (w : World) (vp : Value) (p : Ps) (hp : SlP w vp p) (lp : p.length ≤ 8796093021952) (HKp : Hid (keyedB p = true)) (HOK : Hid (KeysOk p)) (x : Int) (d hk hd : Int) (HA : Hid (Abt x (treeP p) (some (x, d)) (none) (some (hk, hd))))  :
    Calls Try.prog 9 #[vp, .int .i32 x] w fun e w' => e = .returned (.bool true) ∧ Kept Non w w' := by
  have G0 := hid0 (And.intro (Kept.refl Non w) hp)
  clear hp
  go_enter Try.func9, Try.ntmps9
  go_wp2_with fail
  refine (keyed_any _ _ p G0.out.2 (by omega)).mono ?_
  rintro e W1 ⟨rfl, g⟩
  have G1 := hid0 (And.intro (G0.out.1.trans g) (G0.out.2.ext g))
  clear g G0
  rw [HKp.out]
  go_wp2_with fail
  refine (Find_any _ _ p x G1.out.2 (by omega) HOK.out).mono ?_
  rintro e W2 ⟨rfl, g⟩
  have G2 := hid0 (And.intro (G1.out.1.trans g) (G1.out.2.ext g))
  clear g G1
  rw [HA.out.here]
  rw [show fdAt x _ = (x, d, true) from rfl]
  simp only [fv]
  go_wp2_with fail
  refine (Glb_any _ _ p x G2.out.2 (by omega) HOK.out).mono ?_
  rintro e W3 ⟨rfl, g⟩
  have G3 := hid0 (And.intro (G2.out.1.trans g) (G2.out.2.ext g))
  clear g G2
  rw [HA.out.low]
  rw [show fdOf _ = (-2147483648, 0, false) from rfl]
  simp only [fv]
  go_wp2_with fail
  refine (Lub_any _ _ p x G3.out.2 (by omega) HOK.out).mono ?_
  rintro e W4 ⟨rfl, g⟩
  have G4 := hid0 (And.intro (G3.out.1.trans g) (G3.out.2.ext g))
  clear g G3
  rw [HA.out.high]
  rw [show fdOf _ = (hk, hd, true) from rfl]
  simp only [fv]
  go_wp2_with fail
  refine (GlbEq_any _ _ p x (G4.out.2.ext ((((Kept.refl _ _).alloc _).alloc _).alloc _)) (by omega) HOK.out).mono ?_
  rintro e W5 ⟨rfl, g⟩
  have G5 := hid0 (And.intro ((G4.out.1.trans ((((Kept.refl _ _).alloc _).alloc _).alloc _)).trans g) (And.intro ((G4.out.2.ext ((((Kept.refl _ _).alloc _).alloc _).alloc _)).ext g) (And.intro ((fd3 (f := (x, d, true)) (g := (-2147483648, 0, false)) (h := (hk, hd, true)) g).1) (And.intro ((fd3 (f := (x, d, true)) (g := (-2147483648, 0, false)) (h := (hk, hd, true)) g).2.1) ((fd3 (f := (x, d, true)) (g := (-2147483648, 0, false)) (h := (hk, hd, true)) g).2.2)))))
  clear g G4
  rw [HA.out.below]
  rw [show fdOf _ = (x, d, true) from rfl]
  simp only [fv]
  go_wp2_with fail
  refine (LubEq_any _ _ p x G5.out.2.1 (by omega) HOK.out).mono ?_
  rintro e W6 ⟨rfl, g⟩
  have G6 := hid0 (And.intro (G5.out.1.trans g) (And.intro (G5.out.2.1.ext g) (And.intro (G5.out.2.2.1.ext g) (And.intro (G5.out.2.2.2.1.ext g) (G5.out.2.2.2.2.ext g)))))
  clear g G5
  rw [HA.out.above]
  rw [show fdOf _ = (x, d, true) from rfl]
  simp only [fv]
  have h2 := fd_has G6.out.2.2.1
  go_wp2_with fail
  refine wp_gen (fun W => Five w vp p (W4.heap.size) (W6.heap.size) (x, d, true) (-2147483648, 0, false) (hk, hd, true) (x, d, true) (x, d, true) W) ⟨G6.out.2.2.1.ext (((Kept.refl _ _).alloc _).alloc _), G6.out.2.2.2.1.ext (((Kept.refl _ _).alloc _).alloc _), G6.out.2.2.2.2.ext (((Kept.refl _ _).alloc _).alloc _), (fd2 (f := (x, d, true)) (g := (x, d, true))).1, (fd2 (f := (x, d, true)) (g := (x, d, true))).2, (G6.out.1.alloc _).alloc _, G6.out.2.1.ext (((Kept.refl _ _).alloc _).alloc _)⟩ ?_
  rintro W hF
  have HF := hid0 hF
  obtain ⟨r0, r1, r2, r3, r4, r5, r6, r7, r8, r9, r10, r11, r12, r13, r14, rk⟩ := hF.cells (Kept.refl _ _)
  obtain ⟨B, hB⟩ : ∃ B, B = W4.heap.size := ⟨_, rfl⟩
  obtain ⟨C, hC⟩ : ∃ C, C = W6.heap.size := ⟨_, rfl⟩
  rw [← hB] at HF r0 r1 r2 r3 r4 r5 r6 r7 r8 ⊢
  rw [← hC] at HF r9 r10 r11 r12 r13 r14 ⊢
  clear hF h2 hB hC G6
  refine wp_region_held_drew (S := fun W' => W'.cell? ⟨B, 0, none⟩ = some (.int .i32 (x)) ∧ W'.cell? ⟨B, 1, none⟩ = some (.int .i64 (d)) ∧ W'.cell? ⟨B, 2, none⟩ = some (.bool (true)) ∧ W'.cell? ⟨B + 1, 0, none⟩ = some (.int .i32 (-2147483648)) ∧ W'.cell? ⟨B + 1, 1, none⟩ = some (.int .i64 (0)) ∧ W'.cell? ⟨B + 1, 2, none⟩ = some (.bool (false)) ∧ W'.cell? ⟨B + 1 + 1, 0, none⟩ = some (.int .i32 (hk)) ∧ W'.cell? ⟨B + 1 + 1, 1, none⟩ = some (.int .i64 (hd)) ∧ W'.cell? ⟨B + 1 + 1, 2, none⟩ = some (.bool (true)) ∧ W'.cell? ⟨C, 0, none⟩ = some (.int .i32 (x)) ∧ W'.cell? ⟨C, 1, none⟩ = some (.int .i64 (d)) ∧ W'.cell? ⟨C, 2, none⟩ = some (.bool (true)) ∧ W'.cell? ⟨C + 1, 0, none⟩ = some (.int .i32 (x)) ∧ W'.cell? ⟨C + 1, 1, none⟩ = some (.int .i64 (d)) ∧ W'.cell? ⟨C + 1, 2, none⟩ = some (.bool (true)) ∧ Kept Non W W') (by kernel_rfl) (HF.out.cells (Kept.refl _ _).drew) (fun hHeld => ?_)
  refine wpAnyH_take (i := 0) (v := ?v1) (by simp only [List.getElem?_toArray, List.getElem?_cons_zero]; rfl) (by kernel_rfl) (by kernel_rfl) (by kernel_rfl) (by exact fun _ _ _ h => h) (Or.inl ⟨by rfl, ?hy1⟩) (by assumption) ?rest1
  case hy1 => intro w hSw; (try dsimp only at hSw); go_simp; try (with_reducible rfl)
  case rest1 =>
  try simp only [Act.put, List.setIfInBounds_toArray, List.set_cons_zero, List.set_cons_succ]
  refine wpAnyH_take (i := 1) (v := ?v2) (by simp only [List.getElem?_toArray, List.getElem?_cons_succ, List.getElem?_cons_zero]; rfl) (by kernel_rfl) (by kernel_rfl) (by kernel_rfl) (by exact fun _ _ _ h => h) (Or.inl ⟨by rfl, ?hy2⟩) (by assumption) ?rest2
  case hy2 => intro w hSw; (try dsimp only at hSw); go_simp; try (with_reducible rfl)
  case rest2 =>
  try simp only [Act.put, List.setIfInBounds_toArray, List.set_cons_zero, List.set_cons_succ]
  refine wpAnyH_take (i := 2) (v := ?v3) (by simp only [List.getElem?_toArray, List.getElem?_cons_succ, List.getElem?_cons_zero]; rfl) (by kernel_rfl) (by kernel_rfl) (by kernel_rfl) (by exact fun _ _ _ h => h) (Or.inl ⟨by rfl, ?hy3⟩) (by assumption) ?rest3
  case hy3 => intro w hSw; (try dsimp only at hSw); go_simp; try (with_reducible rfl)
  case rest3 =>
  try simp only [Act.put, List.setIfInBounds_toArray, List.set_cons_zero, List.set_cons_succ]
  refine wpAnyH_take (i := 3) (v := ?v4) (by simp only [List.getElem?_toArray, List.getElem?_cons_succ, List.getElem?_cons_zero]; rfl) (by kernel_rfl) (by kernel_rfl) (by kernel_rfl) (by exact fun _ _ _ h => h) (Or.inl ⟨by rfl, ?hy4⟩) (by assumption) ?rest4
  case hy4 => intro w hSw; (try dsimp only at hSw); go_simp; try (with_reducible rfl)
  case rest4 =>
  try simp only [Act.put, List.setIfInBounds_toArray, List.set_cons_zero, List.set_cons_succ]
  refine wpAnyH_take (i := 4) (v := ?v5) (by simp only [List.getElem?_toArray, List.getElem?_cons_succ, List.getElem?_cons_zero]; rfl) (by kernel_rfl) (by kernel_rfl) (by kernel_rfl) (by exact fun _ _ _ h => h) (Or.inl ⟨by rfl, ?hy5⟩) (by assumption) ?rest5
  case hy5 => intro w hSw; (try dsimp only at hSw); go_simp; try (with_reducible rfl)
  case rest5 =>
  try simp only [Act.put, List.setIfInBounds_toArray, List.set_cons_zero, List.set_cons_succ]
  refine wpAnyH_take (i := 5) (v := ?v6) (by simp only [List.getElem?_toArray, List.getElem?_cons_succ, List.getElem?_cons_zero]; rfl) (by kernel_rfl) (by kernel_rfl) (by kernel_rfl) (by exact fun _ _ _ h => h) (Or.inl ⟨by rfl, ?hy6⟩) (by assumption) ?rest6
  case hy6 => intro w hSw; (try dsimp only at hSw); go_simp; try (with_reducible rfl)
  case rest6 =>
  try simp only [Act.put, List.setIfInBounds_toArray, List.set_cons_zero, List.set_cons_succ]
  refine wpAnyH_take (i := 6) (v := ?v7) (by simp only [List.getElem?_toArray, List.getElem?_cons_succ, List.getElem?_cons_zero]; rfl) (by kernel_rfl) (by kernel_rfl) (by kernel_rfl) (by exact fun _ _ _ h => h) (Or.inl ⟨by rfl, ?hy7⟩) (by assumption) ?rest7
  case hy7 => intro w hSw; (try dsimp only at hSw); go_simp; try (with_reducible rfl)
  case rest7 =>
  try simp only [Act.put, List.setIfInBounds_toArray, List.set_cons_zero, List.set_cons_succ]
  refine wpAnyH_take (i := 7) (v := ?v8) (by simp only [List.getElem?_toArray, List.getElem?_cons_succ, List.getElem?_cons_zero]; rfl) (by kernel_rfl) (by kernel_rfl) (by kernel_rfl) (by exact fun _ _ _ h => h) (Or.inl ⟨by rfl, ?hy8⟩) (by assumption) ?rest8
  case hy8 => intro w hSw; (try dsimp only at hSw); go_simp; try (with_reducible rfl)
  case rest8 =>
  try simp only [Act.put, List.setIfInBounds_toArray, List.set_cons_zero, List.set_cons_succ]
  refine wpAnyH_take (i := 8) (v := ?v9) (by simp only [List.getElem?_toArray, List.getElem?_cons_succ, List.getElem?_cons_zero]; rfl) (by kernel_rfl) (by kernel_rfl) (by kernel_rfl) (by exact fun _ _ _ h => h) (Or.inl ⟨by rfl, ?hy9⟩) (by assumption) ?rest9
  case hy9 => intro w hSw; (try dsimp only at hSw); go_simp; try (with_reducible rfl)
  case rest9 =>
  try simp only [Act.put, List.setIfInBounds_toArray, List.set_cons_zero, List.set_cons_succ]
  refine wpAnyH_take (i := 9) (v := ?v10) (by simp only [List.getElem?_toArray, List.getElem?_cons_succ, List.getElem?_cons_zero]; rfl) (by kernel_rfl) (by kernel_rfl) (by kernel_rfl) (by exact fun _ _ _ h => h) (Or.inl ⟨by rfl, ?hy10⟩) (by assumption) ?rest10
  case hy10 => intro w hSw; (try dsimp only at hSw); go_simp; try (with_reducible rfl)
  case rest10 =>
  try simp only [Act.put, List.setIfInBounds_toArray, List.set_cons_zero, List.set_cons_succ]
  refine wpAnyH_take (i := 10) (v := ?v11) (by simp only [List.getElem?_toArray, List.getElem?_cons_succ, List.getElem?_cons_zero]; rfl) (by kernel_rfl) (by kernel_rfl) (by kernel_rfl) (by exact fun _ _ _ h => h) (Or.inl ⟨by rfl, ?hy11⟩) (by assumption) ?rest11
  case hy11 => intro w hSw; (try dsimp only at hSw); go_simp; try (with_reducible rfl)
  case rest11 =>
  try simp only [Act.put, List.setIfInBounds_toArray, List.set_cons_zero, List.set_cons_succ]
  refine wpAnyH_take (i := 11) (v := ?v12) (by simp only [List.getElem?_toArray, List.getElem?_cons_succ, List.getElem?_cons_zero]; rfl) (by kernel_rfl) (by kernel_rfl) (by kernel_rfl) (by exact fun _ _ _ h => h) (Or.inl ⟨by rfl, ?hy12⟩) (by assumption) ?rest12
  case hy12 => intro w hSw; (try dsimp only at hSw); go_simp; try (with_reducible rfl)
  case rest12 =>
  try simp only [Act.put, List.setIfInBounds_toArray, List.set_cons_zero, List.set_cons_succ]
  refine wpAnyH_take (i := 12) (v := ?v13) (by simp only [List.getElem?_toArray, List.getElem?_cons_succ, List.getElem?_cons_zero]; rfl) (by kernel_rfl) (by kernel_rfl) (by kernel_rfl) (by exact fun _ _ _ h => h) (Or.inl ⟨by rfl, ?hy13⟩) (by assumption) ?rest13
  case hy13 => intro w hSw; (try dsimp only at hSw); go_simp; try (with_reducible rfl)
  case rest13 =>
  try simp only [Act.put, List.setIfInBounds_toArray, List.set_cons_zero, List.set_cons_succ]
  refine wpAnyH_take (i := 13) (v := undef) (by simp only [List.getElem?_toArray, List.getElem?_cons_succ, List.getElem?_cons_zero]; rfl) (by kernel_rfl) (by kernel_rfl) (by kernel_rfl) (by exact fun _ _ _ h => h) (Or.inr ⟨by rfl, rfl⟩) (by assumption) ?_
  try simp only [Act.put, List.setIfInBounds_toArray, List.set_cons_zero, List.set_cons_succ]
  refine wpAnyH_take (i := 14) (v := undef) (by simp only [List.getElem?_toArray, List.getElem?_cons_succ, List.getElem?_cons_zero]; rfl) (by kernel_rfl) (by kernel_rfl) (by kernel_rfl) (by exact fun _ _ _ h => h) (Or.inr ⟨by rfl, rfl⟩) (by assumption) ?_
  try simp only [Act.put, List.setIfInBounds_toArray, List.set_cons_zero, List.set_cons_succ]
  refine wpAnyH_take (i := 15) (v := undef) (by simp only [List.getElem?_toArray, List.getElem?_cons_succ, List.getElem?_cons_zero]; rfl) (by kernel_rfl) (by kernel_rfl) (by kernel_rfl) (by exact fun _ _ _ h => h) (Or.inr ⟨by rfl, rfl⟩) (by assumption) ?_
  try simp only [Act.put, List.setIfInBounds_toArray, List.set_cons_zero, List.set_cons_succ]
  refine wpAnyH_take (i := 17) (v := undef) (by simp only [List.getElem?_toArray, List.getElem?_cons_succ, List.getElem?_cons_zero]; rfl) (by kernel_rfl) (by kernel_rfl) (by kernel_rfl) (by exact fun _ _ _ h => h) (Or.inr ⟨by rfl, rfl⟩) (by assumption) ?_
  try simp only [Act.put, List.setIfInBounds_toArray, List.set_cons_zero, List.set_cons_succ]
  refine wpAnyH_take (i := 16) (v := undef) (by simp only [List.getElem?_toArray, List.getElem?_cons_succ, List.getElem?_cons_zero]; rfl) (by kernel_rfl) (by kernel_rfl) (by kernel_rfl) (by exact fun _ _ _ h => h) (Or.inr ⟨by rfl, rfl⟩) (by assumption) ?_
  try simp only [Act.put, List.setIfInBounds_toArray, List.set_cons_zero, List.set_cons_succ]
  refine wpAnyH_take (i := 18) (v := undef) (by simp only [List.getElem?_toArray, List.getElem?_cons_succ, List.getElem?_cons_zero]; rfl) (by kernel_rfl) (by kernel_rfl) (by kernel_rfl) (by exact fun _ _ _ h => h) (Or.inr ⟨by rfl, rfl⟩) (by assumption) ?_
  try simp only [Act.put, List.setIfInBounds_toArray, List.set_cons_zero, List.set_cons_succ]
  refine wpAnyH_take (i := 19) (v := ?v14) (by simp only [List.getElem?_toArray, List.getElem?_cons_succ, List.getElem?_cons_zero]; rfl) (by kernel_rfl) (by kernel_rfl) (by kernel_rfl) (by exact fun _ _ _ h => h) (Or.inl ⟨by rfl, ?hy14⟩) (by assumption) ?rest14
  case hy14 => intro w hSw; (try dsimp only at hSw); go_simp; try (with_reducible rfl)
  case rest14 =>
  try simp only [Act.put, List.setIfInBounds_toArray, List.set_cons_zero, List.set_cons_succ]
  refine wpAnyH_take (i := 20) (v := ?v15) (by simp only [List.getElem?_toArray, List.getElem?_cons_succ, List.getElem?_cons_zero]; rfl) (by kernel_rfl) (by kernel_rfl) (by kernel_rfl) (by exact fun _ _ _ h => h) (Or.inl ⟨by rfl, ?hy15⟩) (by assumption) ?rest15
  case hy15 => intro w hSw; (try dsimp only at hSw); go_simp; try (with_reducible rfl)
  case rest15 =>
  try simp only [Act.put, List.setIfInBounds_toArray, List.set_cons_zero, List.set_cons_succ]
  refine wpAnyH_take (i := 21) (v := ?v16) (by simp only [List.getElem?_toArray, List.getElem?_cons_succ, List.getElem?_cons_zero]; rfl) (by kernel_rfl) (by kernel_rfl) (by kernel_rfl) (by exact fun _ _ _ h => h) (Or.inl ⟨by rfl, ?hy16⟩) (by assumption) ?rest16
  case hy16 => intro w hSw; (try dsimp only at hSw); go_simp; try (with_reducible rfl)
  case rest16 =>
  try simp only [Act.put, List.setIfInBounds_toArray, List.set_cons_zero, List.set_cons_succ]
  refine wpAnyH_take (i := 22) (v := ?v17) (by simp only [List.getElem?_toArray, List.getElem?_cons_succ, List.getElem?_cons_zero]; rfl) (by kernel_rfl) (by kernel_rfl) (by kernel_rfl) (by exact fun _ _ _ h => h) (Or.inl ⟨by rfl, ?hy17⟩) (by assumption) ?rest17
  case hy17 => intro w hSw; (try dsimp only at hSw); go_simp; try (with_reducible rfl)
  case rest17 =>
  try simp only [Act.put, List.setIfInBounds_toArray, List.set_cons_zero, List.set_cons_succ]
  refine wpAnyH_take (i := 23) (v := ?v18) (by simp only [List.getElem?_toArray, List.getElem?_cons_succ, List.getElem?_cons_zero]; rfl) (by kernel_rfl) (by kernel_rfl) (by kernel_rfl) (by exact fun _ _ _ h => h) (Or.inl ⟨by rfl, ?hy18⟩) (by assumption) ?rest18
  case hy18 => intro w hSw; (try dsimp only at hSw); go_simp; try (with_reducible rfl)
  case rest18 =>
  try simp only [Act.put, List.setIfInBounds_toArray, List.set_cons_zero, List.set_cons_succ]
  refine wpAnyH_take (i := 24) (v := ?v19) (by simp only [List.getElem?_toArray, List.getElem?_cons_succ, List.getElem?_cons_zero]; rfl) (by kernel_rfl) (by kernel_rfl) (by kernel_rfl) (by exact fun _ _ _ h => h) (Or.inl ⟨by rfl, ?hy19⟩) (by assumption) ?rest19
  case hy19 => intro w hSw; (try dsimp only at hSw); go_simp; try (with_reducible rfl)
  case rest19 =>
  try simp only [Act.put, List.setIfInBounds_toArray, List.set_cons_zero, List.set_cons_succ]
  refine wpAnyH_take (i := 25) (v := ?v20) (by simp only [List.getElem?_toArray, List.getElem?_cons_succ, List.getElem?_cons_zero]; rfl) (by kernel_rfl) (by kernel_rfl) (by kernel_rfl) (by exact fun _ _ _ h => h) (Or.inl ⟨by rfl, ?hy20⟩) (by assumption) ?rest20
  case hy20 => intro w hSw; (try dsimp only at hSw); go_simp; try (with_reducible rfl)
  case rest20 =>
  try simp only [Act.put, List.setIfInBounds_toArray, List.set_cons_zero, List.set_cons_succ]
  refine wpAnyH_take (i := 26) (v := ?v21) (by simp only [List.getElem?_toArray, List.getElem?_cons_succ, List.getElem?_cons_zero]; rfl) (by kernel_rfl) (by kernel_rfl) (by kernel_rfl) (by exact fun _ _ _ h => h) (Or.inl ⟨by rfl, ?hy21⟩) (by assumption) ?rest21
  case hy21 => intro w hSw; (try dsimp only at hSw); go_simp; try (with_reducible rfl)
  case rest21 =>
  try simp only [Act.put, List.setIfInBounds_toArray, List.set_cons_zero, List.set_cons_succ]
  refine wpAnyH_take (i := 27) (v := ?v22) (by simp only [List.getElem?_toArray, List.getElem?_cons_succ, List.getElem?_cons_zero]; rfl) (by kernel_rfl) (by kernel_rfl) (by kernel_rfl) (by exact fun _ _ _ h => h) (Or.inl ⟨by rfl, ?hy22⟩) (by assumption) ?rest22
  case hy22 => intro w hSw; (try dsimp only at hSw); go_simp; try (with_reducible rfl)
  case rest22 =>
  try simp only [Act.put, List.setIfInBounds_toArray, List.set_cons_zero, List.set_cons_succ]
  refine wpAnyH_take (i := 28) (v := ?v23) (by simp only [List.getElem?_toArray, List.getElem?_cons_succ, List.getElem?_cons_zero]; rfl) (by kernel_rfl) (by kernel_rfl) (by kernel_rfl) (by exact fun _ _ _ h => h) (Or.inl ⟨by rfl, ?hy23⟩) (by assumption) ?rest23
  case hy23 => intro w hSw; (try dsimp only at hSw); go_simp; try (with_reducible rfl)
  case rest23 =>
  try simp only [Act.put, List.setIfInBounds_toArray, List.set_cons_zero, List.set_cons_succ]
  refine wpAnyH_take (i := 30) (v := ?v24) (by simp only [List.getElem?_toArray, List.getElem?_cons_succ, List.getElem?_cons_zero]; rfl) (by kernel_rfl) (by kernel_rfl) (by kernel_rfl) (by exact fun _ _ _ h => h) (Or.inl ⟨by rfl, ?hy24⟩) (by assumption) ?rest24
  case hy24 => intro w hSw; (try dsimp only at hSw); go_simp; try (with_reducible rfl)
  case rest24 =>
  try simp only [Act.put, List.setIfInBounds_toArray, List.set_cons_zero, List.set_cons_succ]
  refine wpAnyH_ready (rs := [29]) (by kernel_rfl) (by simp) ?_
  refine AllReadyH.cons (by simp only [List.getElem?_toArray, List.getElem?_cons_succ, List.getElem?_cons_zero]; rfl) (fun K hK => ?_) AllReadyH.nil
  go_simp
  go_at_call 32
  refine (Glb_any _ _ p hk (HF.out.sl.ext ((Kept.refl _ _).drew)) (by omega) HOK.out).mono ?_
  rintro e WGlb ⟨rfl, gGlb⟩
  rw [HA.out.down _ rfl]
  rw [show fdOf _ = (x, d, true) from rfl]
  simp only [fv]
  go_wp2_with fail
  refine hK.out _ _ ?_ (fun hHeld => ?_)
  · exact HF.out.cells (((Kept.refl _ _).drew).trans gGlb)
  clear hK K
  try simp only [Act.put, List.setIfInBounds_toArray, List.set_cons_zero, List.set_cons_succ]
  refine wpAnyH_take (i := 31) (v := ?v25) (by simp only [List.getElem?_toArray, List.getElem?_cons_succ, List.getElem?_cons_zero]; rfl) (by kernel_rfl) (by kernel_rfl) (by kernel_rfl) (by exact fun _ _ _ h => h) (Or.inl ⟨by rfl, ?hy25⟩) (by assumption) ?rest25
  case hy25 => intro w hSw; (try dsimp only at hSw); go_simp; try (with_reducible rfl)
  case rest25 =>
  try simp only [Act.put, List.setIfInBounds_toArray, List.set_cons_zero, List.set_cons_succ]
  refine wpAnyH_take (i := 32) (v := ?v26) (by simp only [List.getElem?_toArray, List.getElem?_cons_succ, List.getElem?_cons_zero]; rfl) (by kernel_rfl) (by kernel_rfl) (by kernel_rfl) (by exact fun _ _ _ h => h) (Or.inl ⟨by rfl, ?hy26⟩) (by assumption) ?rest26
  case hy26 => intro w hSw; (try dsimp only at hSw); go_simp; try (with_reducible rfl)
  case rest26 =>
  try simp only [Act.put, List.setIfInBounds_toArray, List.set_cons_zero, List.set_cons_succ]
  refine wpAnyH_take (i := 33) (v := ?v27) (by simp only [List.getElem?_toArray, List.getElem?_cons_succ, List.getElem?_cons_zero]; rfl) (by kernel_rfl) (by kernel_rfl) (by kernel_rfl) (by exact fun _ _ _ h => h) (Or.inl ⟨by rfl, ?hy27⟩) (by assumption) ?rest27
  case hy27 => intro w hSw; (try dsimp only at hSw); go_simp; try (with_reducible rfl)
  case rest27 =>
  try simp only [Act.put, List.setIfInBounds_toArray, List.set_cons_zero, List.set_cons_succ]
  refine wpAnyH_take (i := 34) (v := ?v28) (by simp only [List.getElem?_toArray, List.getElem?_cons_succ, List.getElem?_cons_zero]; rfl) (by kernel_rfl) (by kernel_rfl) (by kernel_rfl) (by exact fun _ _ _ h => h) (Or.inl ⟨by rfl, ?hy28⟩) (by assumption) ?rest28
  case hy28 => intro w hSw; (try dsimp only at hSw); go_simp; try (with_reducible rfl)
  case rest28 =>
  try simp only [Act.put, List.setIfInBounds_toArray, List.set_cons_zero, List.set_cons_succ]
  refine wpAnyH_done (by kernel_rfl) ?_ _
  go_wp2
  go_ret
  exact ⟨rfl, HF.out.kept.trans (((Kept.refl _ _).drew).trans gGlb)⟩
set_option maxRecDepth 100000 in
set_option maxHeartbeats 1000000 in
theorem nb_100 (w : World) (vp : Value) (p : Ps) (hp : SlP w vp p) (lp : p.length ≤ 8796093021952) (HKp : Hid (keyedB p = true)) (HOK : Hid (KeysOk p)) (x : Int) (d : Int) (HA : Hid (Abt x (treeP p) (some (x, d)) (none) (none)))  :
    Calls Try.prog 9 #[vp, .int .i32 x] w fun e w' => e = .returned (.bool true) ∧ Kept Non w w' := by
  have G0 := hid0 (And.intro (Kept.refl Non w) hp)
  clear hp
  go_enter Try.func9, Try.ntmps9
  go_wp2_with fail
  refine (keyed_any _ _ p G0.out.2 (by omega)).mono ?_
  rintro e W1 ⟨rfl, g⟩
  have G1 := hid0 (And.intro (G0.out.1.trans g) (G0.out.2.ext g))
  clear g G0
  rw [HKp.out]
  go_wp2_with fail
  refine (Find_any _ _ p x G1.out.2 (by omega) HOK.out).mono ?_
  rintro e W2 ⟨rfl, g⟩
  have G2 := hid0 (And.intro (G1.out.1.trans g) (G1.out.2.ext g))
  clear g G1
  rw [HA.out.here]
  rw [show fdAt x _ = (x, d, true) from rfl]
  simp only [fv]
  go_wp2_with fail
  refine (Glb_any _ _ p x G2.out.2 (by omega) HOK.out).mono ?_
  rintro e W3 ⟨rfl, g⟩
  have G3 := hid0 (And.intro (G2.out.1.trans g) (G2.out.2.ext g))
  clear g G2
  rw [HA.out.low]
  rw [show fdOf _ = (-2147483648, 0, false) from rfl]
  simp only [fv]
  go_wp2_with fail
  refine (Lub_any _ _ p x G3.out.2 (by omega) HOK.out).mono ?_
  rintro e W4 ⟨rfl, g⟩
  have G4 := hid0 (And.intro (G3.out.1.trans g) (G3.out.2.ext g))
  clear g G3
  rw [HA.out.high]
  rw [show fdOf _ = (-2147483648, 0, false) from rfl]
  simp only [fv]
  go_wp2_with fail
  refine (GlbEq_any _ _ p x (G4.out.2.ext ((((Kept.refl _ _).alloc _).alloc _).alloc _)) (by omega) HOK.out).mono ?_
  rintro e W5 ⟨rfl, g⟩
  have G5 := hid0 (And.intro ((G4.out.1.trans ((((Kept.refl _ _).alloc _).alloc _).alloc _)).trans g) (And.intro ((G4.out.2.ext ((((Kept.refl _ _).alloc _).alloc _).alloc _)).ext g) (And.intro ((fd3 (f := (x, d, true)) (g := (-2147483648, 0, false)) (h := (-2147483648, 0, false)) g).1) (And.intro ((fd3 (f := (x, d, true)) (g := (-2147483648, 0, false)) (h := (-2147483648, 0, false)) g).2.1) ((fd3 (f := (x, d, true)) (g := (-2147483648, 0, false)) (h := (-2147483648, 0, false)) g).2.2)))))
  clear g G4
  rw [HA.out.below]
  rw [show fdOf _ = (x, d, true) from rfl]
  simp only [fv]
  go_wp2_with fail
  refine (LubEq_any _ _ p x G5.out.2.1 (by omega) HOK.out).mono ?_
  rintro e W6 ⟨rfl, g⟩
  have G6 := hid0 (And.intro (G5.out.1.trans g) (And.intro (G5.out.2.1.ext g) (And.intro (G5.out.2.2.1.ext g) (And.intro (G5.out.2.2.2.1.ext g) (G5.out.2.2.2.2.ext g)))))
  clear g G5
  rw [HA.out.above]
  rw [show fdOf _ = (x, d, true) from rfl]
  simp only [fv]
  have h2 := fd_has G6.out.2.2.1
  go_wp2_with fail
  refine wp_gen (fun W => Five w vp p (W4.heap.size) (W6.heap.size) (x, d, true) (-2147483648, 0, false) (-2147483648, 0, false) (x, d, true) (x, d, true) W) ⟨G6.out.2.2.1.ext (((Kept.refl _ _).alloc _).alloc _), G6.out.2.2.2.1.ext (((Kept.refl _ _).alloc _).alloc _), G6.out.2.2.2.2.ext (((Kept.refl _ _).alloc _).alloc _), (fd2 (f := (x, d, true)) (g := (x, d, true))).1, (fd2 (f := (x, d, true)) (g := (x, d, true))).2, (G6.out.1.alloc _).alloc _, G6.out.2.1.ext (((Kept.refl _ _).alloc _).alloc _)⟩ ?_
  rintro W hF
  have HF := hid0 hF
  obtain ⟨r0, r1, r2, r3, r4, r5, r6, r7, r8, r9, r10, r11, r12, r13, r14, rk⟩ := hF.cells (Kept.refl _ _)
  obtain ⟨B, hB⟩ : ∃ B, B = W4.heap.size := ⟨_, rfl⟩
  obtain ⟨C, hC⟩ : ∃ C, C = W6.heap.size := ⟨_, rfl⟩
  rw [← hB] at HF r0 r1 r2 r3 r4 r5 r6 r7 r8 ⊢
  rw [← hC] at HF r9 r10 r11 r12 r13 r14 ⊢
  clear hF h2 hB hC G6
  go_quiet (fail)
  go_wp2
  go_ret
  exact ⟨rfl, HF.out.kept.trans ((Kept.refl _ _).drewN _)⟩
set_option maxRecDepth 100000 in
set_option maxHeartbeats 1000000 in
theorem nb_011 (w : World) (vp : Value) (p : Ps) (hp : SlP w vp p) (lp : p.length ≤ 8796093021952) (HKp : Hid (keyedB p = true)) (HOK : Hid (KeysOk p)) (x : Int) (lk ld hk hd : Int) (HA : Hid (Abt x (treeP p) (none) (some (lk, ld)) (some (hk, hd)))) (hlk : (lk != -2147483648) = true) :
    Calls Try.prog 9 #[vp, .int .i32 x] w fun e w' => e = .returned (.bool true) ∧ Kept Non w w' := by
  have G0 := hid0 (And.intro (Kept.refl Non w) hp)
  clear hp
  go_enter Try.func9, Try.ntmps9
  go_wp2_with fail
  refine (keyed_any _ _ p G0.out.2 (by omega)).mono ?_
  rintro e W1 ⟨rfl, g⟩
  have G1 := hid0 (And.intro (G0.out.1.trans g) (G0.out.2.ext g))
  clear g G0
  rw [HKp.out]
  go_wp2_with fail
  refine (Find_any _ _ p x G1.out.2 (by omega) HOK.out).mono ?_
  rintro e W2 ⟨rfl, g⟩
  have G2 := hid0 (And.intro (G1.out.1.trans g) (G1.out.2.ext g))
  clear g G1
  rw [HA.out.here]
  rw [show fdAt x _ = (x, 0, false) from rfl]
  simp only [fv]
  go_wp2_with fail
  refine (Glb_any _ _ p x G2.out.2 (by omega) HOK.out).mono ?_
  rintro e W3 ⟨rfl, g⟩
  have G3 := hid0 (And.intro (G2.out.1.trans g) (G2.out.2.ext g))
  clear g G2
  rw [HA.out.low]
  rw [show fdOf _ = (lk, ld, true) from rfl]
  simp only [fv]
  go_wp2_with fail
  refine (Lub_any _ _ p x G3.out.2 (by omega) HOK.out).mono ?_
  rintro e W4 ⟨rfl, g⟩
  have G4 := hid0 (And.intro (G3.out.1.trans g) (G3.out.2.ext g))
  clear g G3
  rw [HA.out.high]
  rw [show fdOf _ = (hk, hd, true) from rfl]
  simp only [fv]
  go_wp2_with fail
  refine (GlbEq_any _ _ p x (G4.out.2.ext ((((Kept.refl _ _).alloc _).alloc _).alloc _)) (by omega) HOK.out).mono ?_
  rintro e W5 ⟨rfl, g⟩
  have G5 := hid0 (And.intro ((G4.out.1.trans ((((Kept.refl _ _).alloc _).alloc _).alloc _)).trans g) (And.intro ((G4.out.2.ext ((((Kept.refl _ _).alloc _).alloc _).alloc _)).ext g) (And.intro ((fd3 (f := (x, 0, false)) (g := (lk, ld, true)) (h := (hk, hd, true)) g).1) (And.intro ((fd3 (f := (x, 0, false)) (g := (lk, ld, true)) (h := (hk, hd, true)) g).2.1) ((fd3 (f := (x, 0, false)) (g := (lk, ld, true)) (h := (hk, hd, true)) g).2.2)))))
  clear g G4
  rw [HA.out.below]
  rw [show fdOf _ = (lk, ld, true) from rfl]
  simp only [fv]
  go_wp2_with fail
  refine (LubEq_any _ _ p x G5.out.2.1 (by omega) HOK.out).mono ?_
  rintro e W6 ⟨rfl, g⟩
  have G6 := hid0 (And.intro (G5.out.1.trans g) (And.intro (G5.out.2.1.ext g) (And.intro (G5.out.2.2.1.ext g) (And.intro (G5.out.2.2.2.1.ext g) (G5.out.2.2.2.2.ext g)))))
  clear g G5
  rw [HA.out.above]
  rw [show fdOf _ = (hk, hd, true) from rfl]
  simp only [fv]
  have h2 := fd_has G6.out.2.2.1
  go_wp2_with fail
  refine wp_gen (fun W => Five w vp p (W4.heap.size) (W6.heap.size) (x, 0, false) (lk, ld, true) (hk, hd, true) (lk, ld, true) (hk, hd, true) W) ⟨G6.out.2.2.1.ext (((Kept.refl _ _).alloc _).alloc _), G6.out.2.2.2.1.ext (((Kept.refl _ _).alloc _).alloc _), G6.out.2.2.2.2.ext (((Kept.refl _ _).alloc _).alloc _), (fd2 (f := (lk, ld, true)) (g := (hk, hd, true))).1, (fd2 (f := (lk, ld, true)) (g := (hk, hd, true))).2, (G6.out.1.alloc _).alloc _, G6.out.2.1.ext (((Kept.refl _ _).alloc _).alloc _)⟩ ?_
  rintro W hF
  have HF := hid0 hF
  obtain ⟨r0, r1, r2, r3, r4, r5, r6, r7, r8, r9, r10, r11, r12, r13, r14, rk⟩ := hF.cells (Kept.refl _ _)
  obtain ⟨B, hB⟩ : ∃ B, B = W4.heap.size := ⟨_, rfl⟩
  obtain ⟨C, hC⟩ : ∃ C, C = W6.heap.size := ⟨_, rfl⟩
  rw [← hB] at HF r0 r1 r2 r3 r4 r5 r6 r7 r8 ⊢
  rw [← hC] at HF r9 r10 r11 r12 r13 r14 ⊢
  clear hF h2 hB hC G6
  go_region_held3 (fun W' => W'.cell? ⟨B, 0, none⟩ = some (.int .i32 (x)) ∧ W'.cell? ⟨B, 1, none⟩ = some (.int .i64 (0)) ∧ W'.cell? ⟨B, 2, none⟩ = some (.bool (false)) ∧ W'.cell? ⟨B + 1, 0, none⟩ = some (.int .i32 (lk)) ∧ W'.cell? ⟨B + 1, 1, none⟩ = some (.int .i64 (ld)) ∧ W'.cell? ⟨B + 1, 2, none⟩ = some (.bool (true)) ∧ W'.cell? ⟨B + 1 + 1, 0, none⟩ = some (.int .i32 (hk)) ∧ W'.cell? ⟨B + 1 + 1, 1, none⟩ = some (.int .i64 (hd)) ∧ W'.cell? ⟨B + 1 + 1, 2, none⟩ = some (.bool (true)) ∧ W'.cell? ⟨C, 0, none⟩ = some (.int .i32 (lk)) ∧ W'.cell? ⟨C, 1, none⟩ = some (.int .i64 (ld)) ∧ W'.cell? ⟨C, 2, none⟩ = some (.bool (true)) ∧ W'.cell? ⟨C + 1, 0, none⟩ = some (.int .i32 (hk)) ∧ W'.cell? ⟨C + 1, 1, none⟩ = some (.int .i64 (hd)) ∧ W'.cell? ⟨C + 1, 2, none⟩ = some (.bool (true)) ∧ Kept Non W W')
    (first | exact HF.out.cells (Kept.refl _ _).drew | (go_split_ands; exact HF.out.cells ((by assumption : Kept Non W _).trans (by assumption))))
    (first | (go_at_call 33; go_split_ands; refine (Lub_any _ _ p lk (HF.out.sl.ext (by assumption)) (by omega) HOK.out).mono ?_; rintro e WLub ⟨rfl, gLub⟩; rw [HA.out.up _ rfl]; rw [show fdOf _ = (hk, hd, true) from rfl]; simp only [fv]) | (go_at_call 32; go_split_ands; refine (Glb_any _ _ p hk (HF.out.sl.ext (by assumption)) (by omega) HOK.out).mono ?_; rintro e WGlb ⟨rfl, gGlb⟩; rw [HA.out.down _ rfl]; rw [show fdOf _ = (lk, ld, true) from rfl]; simp only [fv]))
  go_split_ands
  go_wp2_with fail
  refine wp_gen (fun W => Five w vp p B C (x, 0, false) (lk, ld, true) (hk, hd, true) (lk, ld, true) (hk, hd, true) W) (HF.out.ext (by assumption)) ?_
  clear r0 r1 r2 r3 r4 r5 r6 r7 r8 r9 r10 r11 r12 r13 r14 rk HF
  rintro V hF
  have HF := hid0 hF
  obtain ⟨r0, r1, r2, r3, r4, r5, r6, r7, r8, r9, r10, r11, r12, r13, r14, rk⟩ := hF.cells (Kept.refl _ _)
  clear hF
  go_quiet (fail)
  go_wp2
  go_ret
  exact ⟨rfl, HF.out.kept.trans ((Kept.refl _ _).drewN _)⟩
set_option maxRecDepth 100000 in
set_option maxHeartbeats 1000000 in
theorem nb_010 (w : World) (vp : Value) (p : Ps) (hp : SlP w vp p) (lp : p.length ≤ 8796093021952) (HKp : Hid (keyedB p = true)) (HOK : Hid (KeysOk p)) (x : Int) (lk ld : Int) (HA : Hid (Abt x (treeP p) (none) (some (lk, ld)) (none))) (hlk : (lk != -2147483648) = true) :
    Calls Try.prog 9 #[vp, .int .i32 x] w fun e w' => e = .returned (.bool true) ∧ Kept Non w w' := by
  have G0 := hid0 (And.intro (Kept.refl Non w) hp)
  clear hp
  go_enter Try.func9, Try.ntmps9
  go_wp2_with fail
  refine (keyed_any _ _ p G0.out.2 (by omega)).mono ?_
  rintro e W1 ⟨rfl, g⟩
  have G1 := hid0 (And.intro (G0.out.1.trans g) (G0.out.2.ext g))
  clear g G0
  rw [HKp.out]
  go_wp2_with fail
  refine (Find_any _ _ p x G1.out.2 (by omega) HOK.out).mono ?_
  rintro e W2 ⟨rfl, g⟩
  have G2 := hid0 (And.intro (G1.out.1.trans g) (G1.out.2.ext g))
  clear g G1
  rw [HA.out.here]
  rw [show fdAt x _ = (x, 0, false) from rfl]
  simp only [fv]
  go_wp2_with fail
  refine (Glb_any _ _ p x G2.out.2 (by omega) HOK.out).mono ?_
  rintro e W3 ⟨rfl, g⟩
  have G3 := hid0 (And.intro (G2.out.1.trans g) (G2.out.2.ext g))
  clear g G2
  rw [HA.out.low]
  rw [show fdOf _ = (lk, ld, true) from rfl]
  simp only [fv]
  go_wp2_with fail
  refine (Lub_any _ _ p x G3.out.2 (by omega) HOK.out).mono ?_
  rintro e W4 ⟨rfl, g⟩
  have G4 := hid0 (And.intro (G3.out.1.trans g) (G3.out.2.ext g))
  clear g G3
  rw [HA.out.high]
  rw [show fdOf _ = (-2147483648, 0, false) from rfl]
  simp only [fv]
  go_wp2_with fail
  refine (GlbEq_any _ _ p x (G4.out.2.ext ((((Kept.refl _ _).alloc _).alloc _).alloc _)) (by omega) HOK.out).mono ?_
  rintro e W5 ⟨rfl, g⟩
  have G5 := hid0 (And.intro ((G4.out.1.trans ((((Kept.refl _ _).alloc _).alloc _).alloc _)).trans g) (And.intro ((G4.out.2.ext ((((Kept.refl _ _).alloc _).alloc _).alloc _)).ext g) (And.intro ((fd3 (f := (x, 0, false)) (g := (lk, ld, true)) (h := (-2147483648, 0, false)) g).1) (And.intro ((fd3 (f := (x, 0, false)) (g := (lk, ld, true)) (h := (-2147483648, 0, false)) g).2.1) ((fd3 (f := (x, 0, false)) (g := (lk, ld, true)) (h := (-2147483648, 0, false)) g).2.2)))))
  clear g G4
  rw [HA.out.below]
  rw [show fdOf _ = (lk, ld, true) from rfl]
  simp only [fv]
  go_wp2_with fail
  refine (LubEq_any _ _ p x G5.out.2.1 (by omega) HOK.out).mono ?_
  rintro e W6 ⟨rfl, g⟩
  have G6 := hid0 (And.intro (G5.out.1.trans g) (And.intro (G5.out.2.1.ext g) (And.intro (G5.out.2.2.1.ext g) (And.intro (G5.out.2.2.2.1.ext g) (G5.out.2.2.2.2.ext g)))))
  clear g G5
  rw [HA.out.above]
  rw [show fdOf _ = (-2147483648, 0, false) from rfl]
  simp only [fv]
  have h2 := fd_has G6.out.2.2.1
  go_wp2_with fail
  refine wp_gen (fun W => Five w vp p (W4.heap.size) (W6.heap.size) (x, 0, false) (lk, ld, true) (-2147483648, 0, false) (lk, ld, true) (-2147483648, 0, false) W) ⟨G6.out.2.2.1.ext (((Kept.refl _ _).alloc _).alloc _), G6.out.2.2.2.1.ext (((Kept.refl _ _).alloc _).alloc _), G6.out.2.2.2.2.ext (((Kept.refl _ _).alloc _).alloc _), (fd2 (f := (lk, ld, true)) (g := (-2147483648, 0, false))).1, (fd2 (f := (lk, ld, true)) (g := (-2147483648, 0, false))).2, (G6.out.1.alloc _).alloc _, G6.out.2.1.ext (((Kept.refl _ _).alloc _).alloc _)⟩ ?_
  rintro W hF
  have HF := hid0 hF
  obtain ⟨r0, r1, r2, r3, r4, r5, r6, r7, r8, r9, r10, r11, r12, r13, r14, rk⟩ := hF.cells (Kept.refl _ _)
  obtain ⟨B, hB⟩ : ∃ B, B = W4.heap.size := ⟨_, rfl⟩
  obtain ⟨C, hC⟩ : ∃ C, C = W6.heap.size := ⟨_, rfl⟩
  rw [← hB] at HF r0 r1 r2 r3 r4 r5 r6 r7 r8 ⊢
  rw [← hC] at HF r9 r10 r11 r12 r13 r14 ⊢
  clear hF h2 hB hC G6
  refine wp_region_held_drew (S := fun W' => W'.cell? ⟨B, 0, none⟩ = some (.int .i32 (x)) ∧ W'.cell? ⟨B, 1, none⟩ = some (.int .i64 (0)) ∧ W'.cell? ⟨B, 2, none⟩ = some (.bool (false)) ∧ W'.cell? ⟨B + 1, 0, none⟩ = some (.int .i32 (lk)) ∧ W'.cell? ⟨B + 1, 1, none⟩ = some (.int .i64 (ld)) ∧ W'.cell? ⟨B + 1, 2, none⟩ = some (.bool (true)) ∧ W'.cell? ⟨B + 1 + 1, 0, none⟩ = some (.int .i32 (-2147483648)) ∧ W'.cell? ⟨B + 1 + 1, 1, none⟩ = some (.int .i64 (0)) ∧ W'.cell? ⟨B + 1 + 1, 2, none⟩ = some (.bool (false)) ∧ W'.cell? ⟨C, 0, none⟩ = some (.int .i32 (lk)) ∧ W'.cell? ⟨C, 1, none⟩ = some (.int .i64 (ld)) ∧ W'.cell? ⟨C, 2, none⟩ = some (.bool (true)) ∧ W'.cell? ⟨C + 1, 0, none⟩ = some (.int .i32 (-2147483648)) ∧ W'.cell? ⟨C + 1, 1, none⟩ = some (.int .i64 (0)) ∧ W'.cell? ⟨C + 1, 2, none⟩ = some (.bool (false)) ∧ Kept Non W W') (by kernel_rfl) (HF.out.cells (Kept.refl _ _).drew) (fun hHeld => ?_)
  refine wpAnyH_take (i := 0) (v := ?v1) (by simp only [List.getElem?_toArray, List.getElem?_cons_zero]; rfl) (by kernel_rfl) (by kernel_rfl) (by kernel_rfl) (by exact fun _ _ _ h => h) (Or.inl ⟨by rfl, ?hy1⟩) (by assumption) ?rest1
  case hy1 => intro w hSw; (try dsimp only at hSw); go_simp; try (with_reducible rfl)
  case rest1 =>
  try simp only [Act.put, List.setIfInBounds_toArray, List.set_cons_zero, List.set_cons_succ]
  refine wpAnyH_take (i := 1) (v := ?v2) (by simp only [List.getElem?_toArray, List.getElem?_cons_succ, List.getElem?_cons_zero]; rfl) (by kernel_rfl) (by kernel_rfl) (by kernel_rfl) (by exact fun _ _ _ h => h) (Or.inl ⟨by rfl, ?hy2⟩) (by assumption) ?rest2
  case hy2 => intro w hSw; (try dsimp only at hSw); go_simp; try (with_reducible rfl)
  case rest2 =>
  try simp only [Act.put, List.setIfInBounds_toArray, List.set_cons_zero, List.set_cons_succ]
  refine wpAnyH_take (i := 2) (v := ?v3) (by simp only [List.getElem?_toArray, List.getElem?_cons_succ, List.getElem?_cons_zero]; rfl) (by kernel_rfl) (by kernel_rfl) (by kernel_rfl) (by exact fun _ _ _ h => h) (Or.inl ⟨by rfl, ?hy3⟩) (by assumption) ?rest3
  case hy3 => intro w hSw; (try dsimp only at hSw); go_simp; try (with_reducible rfl)
  case rest3 =>
  try simp only [Act.put, List.setIfInBounds_toArray, List.set_cons_zero, List.set_cons_succ]
  refine wpAnyH_take (i := 3) (v := ?v4) (by simp only [List.getElem?_toArray, List.getElem?_cons_succ, List.getElem?_cons_zero]; rfl) (by kernel_rfl) (by kernel_rfl) (by kernel_rfl) (by exact fun _ _ _ h => h) (Or.inl ⟨by rfl, ?hy4⟩) (by assumption) ?rest4
  case hy4 => intro w hSw; (try dsimp only at hSw); go_simp; try (with_reducible rfl)
  case rest4 =>
  try simp only [Act.put, List.setIfInBounds_toArray, List.set_cons_zero, List.set_cons_succ]
  refine wpAnyH_take (i := 4) (v := ?v5) (by simp only [List.getElem?_toArray, List.getElem?_cons_succ, List.getElem?_cons_zero]; rfl) (by kernel_rfl) (by kernel_rfl) (by kernel_rfl) (by exact fun _ _ _ h => h) (Or.inl ⟨by rfl, ?hy5⟩) (by assumption) ?rest5
  case hy5 => intro w hSw; (try dsimp only at hSw); go_simp; try (with_reducible rfl)
  case rest5 =>
  try simp only [Act.put, List.setIfInBounds_toArray, List.set_cons_zero, List.set_cons_succ]
  refine wpAnyH_take (i := 5) (v := ?v6) (by simp only [List.getElem?_toArray, List.getElem?_cons_succ, List.getElem?_cons_zero]; rfl) (by kernel_rfl) (by kernel_rfl) (by kernel_rfl) (by exact fun _ _ _ h => h) (Or.inl ⟨by rfl, ?hy6⟩) (by assumption) ?rest6
  case hy6 => intro w hSw; (try dsimp only at hSw); go_simp; try (with_reducible rfl)
  case rest6 =>
  try simp only [Act.put, List.setIfInBounds_toArray, List.set_cons_zero, List.set_cons_succ]
  refine wpAnyH_take (i := 6) (v := ?v7) (by simp only [List.getElem?_toArray, List.getElem?_cons_succ, List.getElem?_cons_zero]; rfl) (by kernel_rfl) (by kernel_rfl) (by kernel_rfl) (by exact fun _ _ _ h => h) (Or.inl ⟨by rfl, ?hy7⟩) (by assumption) ?rest7
  case hy7 => intro w hSw; (try dsimp only at hSw); go_simp; try (with_reducible rfl)
  case rest7 =>
  try simp only [Act.put, List.setIfInBounds_toArray, List.set_cons_zero, List.set_cons_succ]
  refine wpAnyH_take (i := 7) (v := ?v8) (by simp only [List.getElem?_toArray, List.getElem?_cons_succ, List.getElem?_cons_zero]; rfl) (by kernel_rfl) (by kernel_rfl) (by kernel_rfl) (by exact fun _ _ _ h => h) (Or.inl ⟨by rfl, ?hy8⟩) (by assumption) ?rest8
  case hy8 => intro w hSw; (try dsimp only at hSw); go_simp; try (with_reducible rfl)
  case rest8 =>
  try simp only [Act.put, List.setIfInBounds_toArray, List.set_cons_zero, List.set_cons_succ]
  refine wpAnyH_take (i := 8) (v := ?v9) (by simp only [List.getElem?_toArray, List.getElem?_cons_succ, List.getElem?_cons_zero]; rfl) (by kernel_rfl) (by kernel_rfl) (by kernel_rfl) (by exact fun _ _ _ h => h) (Or.inl ⟨by rfl, ?hy9⟩) (by assumption) ?rest9
  case hy9 => intro w hSw; (try dsimp only at hSw); go_simp; try (with_reducible rfl)
  case rest9 =>
  try simp only [Act.put, List.setIfInBounds_toArray, List.set_cons_zero, List.set_cons_succ]
  refine wpAnyH_take (i := 9) (v := ?v10) (by simp only [List.getElem?_toArray, List.getElem?_cons_succ, List.getElem?_cons_zero]; rfl) (by kernel_rfl) (by kernel_rfl) (by kernel_rfl) (by exact fun _ _ _ h => h) (Or.inl ⟨by rfl, ?hy10⟩) (by assumption) ?rest10
  case hy10 => intro w hSw; (try dsimp only at hSw); go_simp; try (with_reducible rfl)
  case rest10 =>
  try simp only [Act.put, List.setIfInBounds_toArray, List.set_cons_zero, List.set_cons_succ]
  refine wpAnyH_take (i := 10) (v := ?v11) (by simp only [List.getElem?_toArray, List.getElem?_cons_succ, List.getElem?_cons_zero]; rfl) (by kernel_rfl) (by kernel_rfl) (by kernel_rfl) (by exact fun _ _ _ h => h) (Or.inl ⟨by rfl, ?hy11⟩) (by assumption) ?rest11
  case hy11 => intro w hSw; (try dsimp only at hSw); go_simp; try (with_reducible rfl)
  case rest11 =>
  try simp only [Act.put, List.setIfInBounds_toArray, List.set_cons_zero, List.set_cons_succ]
  refine wpAnyH_take (i := 11) (v := ?v12) (by simp only [List.getElem?_toArray, List.getElem?_cons_succ, List.getElem?_cons_zero]; rfl) (by kernel_rfl) (by kernel_rfl) (by kernel_rfl) (by exact fun _ _ _ h => h) (Or.inl ⟨by rfl, ?hy12⟩) (by assumption) ?rest12
  case hy12 => intro w hSw; (try dsimp only at hSw); go_simp; try (with_reducible rfl)
  case rest12 =>
  try simp only [Act.put, List.setIfInBounds_toArray, List.set_cons_zero, List.set_cons_succ]
  refine wpAnyH_take (i := 12) (v := ?v13) (by simp only [List.getElem?_toArray, List.getElem?_cons_succ, List.getElem?_cons_zero]; rfl) (by kernel_rfl) (by kernel_rfl) (by kernel_rfl) (by exact fun _ _ _ h => h) (Or.inl ⟨by rfl, ?hy13⟩) (by assumption) ?rest13
  case hy13 => intro w hSw; (try dsimp only at hSw); go_simp; try (with_reducible rfl)
  case rest13 =>
  try simp only [Act.put, List.setIfInBounds_toArray, List.set_cons_zero, List.set_cons_succ]
  refine wpAnyH_take (i := 13) (v := ?v14) (by simp only [List.getElem?_toArray, List.getElem?_cons_succ, List.getElem?_cons_zero]; rfl) (by kernel_rfl) (by kernel_rfl) (by kernel_rfl) (by exact fun _ _ _ h => h) (Or.inl ⟨by rfl, ?hy14⟩) (by assumption) ?rest14
  case hy14 => intro w hSw; (try dsimp only at hSw); go_simp; try (with_reducible rfl)
  case rest14 =>
  try simp only [Act.put, List.setIfInBounds_toArray, List.set_cons_zero, List.set_cons_succ]
  refine wpAnyH_take (i := 14) (v := ?v15) (by simp only [List.getElem?_toArray, List.getElem?_cons_succ, List.getElem?_cons_zero]; rfl) (by kernel_rfl) (by kernel_rfl) (by kernel_rfl) (by exact fun _ _ _ h => h) (Or.inl ⟨by rfl, ?hy15⟩) (by assumption) ?rest15
  case hy15 => intro w hSw; (try dsimp only at hSw); go_simp; try (with_reducible rfl)
  case rest15 =>
  try simp only [Act.put, List.setIfInBounds_toArray, List.set_cons_zero, List.set_cons_succ]
  refine wpAnyH_take (i := 16) (v := ?v16) (by simp only [List.getElem?_toArray, List.getElem?_cons_succ, List.getElem?_cons_zero]; rfl) (by kernel_rfl) (by kernel_rfl) (by kernel_rfl) (by exact fun _ _ _ h => h) (Or.inl ⟨by rfl, ?hy16⟩) (by assumption) ?rest16
  case hy16 => intro w hSw; (try dsimp only at hSw); go_simp; try (with_reducible rfl)
  case rest16 =>
  try simp only [Act.put, List.setIfInBounds_toArray, List.set_cons_zero, List.set_cons_succ]
  refine wpAnyH_ready (rs := [15]) (by kernel_rfl) (by simp) ?_
  refine AllReadyH.cons (by simp only [List.getElem?_toArray, List.getElem?_cons_succ, List.getElem?_cons_zero]; rfl) (fun K hK => ?_) AllReadyH.nil
  go_simp
  go_at_call 33
  refine (Lub_any _ _ p lk (HF.out.sl.ext ((Kept.refl _ _).drew)) (by omega) HOK.out).mono ?_
  rintro e WLub ⟨rfl, gLub⟩
  rw [HA.out.up _ rfl]
  rw [show fdOf _ = (-2147483648, 0, false) from rfl]
  simp only [fv]
  go_wp2_with fail
  refine hK.out _ _ ?_ (fun hHeld => ?_)
  · exact HF.out.cells (((Kept.refl _ _).drew).trans gLub)
  clear hK K
  try simp only [Act.put, List.setIfInBounds_toArray, List.set_cons_zero, List.set_cons_succ]
  refine wpAnyH_take (i := 17) (v := ?v17) (by simp only [List.getElem?_toArray, List.getElem?_cons_succ, List.getElem?_cons_zero]; rfl) (by kernel_rfl) (by kernel_rfl) (by kernel_rfl) (by exact fun _ _ _ h => h) (Or.inl ⟨by rfl, ?hy17⟩) (by assumption) ?rest17
  case hy17 => intro w hSw; (try dsimp only at hSw); go_simp; try (with_reducible rfl)
  case rest17 =>
  try simp only [Act.put, List.setIfInBounds_toArray, List.set_cons_zero, List.set_cons_succ]
  refine wpAnyH_take (i := 18) (v := ?v18) (by simp only [List.getElem?_toArray, List.getElem?_cons_succ, List.getElem?_cons_zero]; rfl) (by kernel_rfl) (by kernel_rfl) (by kernel_rfl) (by exact fun _ _ _ h => h) (Or.inl ⟨by rfl, ?hy18⟩) (by assumption) ?rest18
  case hy18 => intro w hSw; (try dsimp only at hSw); go_simp; try (with_reducible rfl)
  case rest18 =>
  try simp only [Act.put, List.setIfInBounds_toArray, List.set_cons_zero, List.set_cons_succ]
  refine wpAnyH_take (i := 19) (v := ?v19) (by simp only [List.getElem?_toArray, List.getElem?_cons_succ, List.getElem?_cons_zero]; rfl) (by kernel_rfl) (by kernel_rfl) (by kernel_rfl) (by exact fun _ _ _ h => h) (Or.inl ⟨by rfl, ?hy19⟩) (by assumption) ?rest19
  case hy19 => intro w hSw; (try dsimp only at hSw); go_simp; try (with_reducible rfl)
  case rest19 =>
  try simp only [Act.put, List.setIfInBounds_toArray, List.set_cons_zero, List.set_cons_succ]
  refine wpAnyH_take (i := 20) (v := ?v20) (by simp only [List.getElem?_toArray, List.getElem?_cons_succ, List.getElem?_cons_zero]; rfl) (by kernel_rfl) (by kernel_rfl) (by kernel_rfl) (by exact fun _ _ _ h => h) (Or.inl ⟨by rfl, ?hy20⟩) (by assumption) ?rest20
  case hy20 => intro w hSw; (try dsimp only at hSw); go_simp; try (with_reducible rfl)
  case rest20 =>
  try simp only [Act.put, List.setIfInBounds_toArray, List.set_cons_zero, List.set_cons_succ]
  refine wpAnyH_take (i := 21) (v := ?v21) (by simp only [List.getElem?_toArray, List.getElem?_cons_succ, List.getElem?_cons_zero]; rfl) (by kernel_rfl) (by kernel_rfl) (by kernel_rfl) (by exact fun _ _ _ h => h) (Or.inl ⟨by rfl, ?hy21⟩) (by assumption) ?rest21
  case hy21 => intro w hSw; (try dsimp only at hSw); go_simp; try (with_reducible rfl)
  case rest21 =>
  try simp only [Act.put, List.setIfInBounds_toArray, List.set_cons_zero, List.set_cons_succ]
  refine wpAnyH_take (i := 22) (v := ?v22) (by simp only [List.getElem?_toArray, List.getElem?_cons_succ, List.getElem?_cons_zero]; rfl) (by kernel_rfl) (by kernel_rfl) (by kernel_rfl) (by exact fun _ _ _ h => h) (Or.inl ⟨by rfl, ?hy22⟩) (by assumption) ?rest22
  case hy22 => intro w hSw; (try dsimp only at hSw); go_simp; try (with_reducible rfl)
  case rest22 =>
  try simp only [Act.put, List.setIfInBounds_toArray, List.set_cons_zero, List.set_cons_succ]
  refine wpAnyH_take (i := 23) (v := ?v23) (by simp only [List.getElem?_toArray, List.getElem?_cons_succ, List.getElem?_cons_zero]; rfl) (by kernel_rfl) (by kernel_rfl) (by kernel_rfl) (by exact fun _ _ _ h => h) (Or.inl ⟨by rfl, ?hy23⟩) (by assumption) ?rest23
  case hy23 => intro w hSw; (try dsimp only at hSw); go_simp; try (with_reducible rfl)
  case rest23 =>
  try simp only [Act.put, List.setIfInBounds_toArray, List.set_cons_zero, List.set_cons_succ]
  refine wpAnyH_take (i := 24) (v := undef) (by simp only [List.getElem?_toArray, List.getElem?_cons_succ, List.getElem?_cons_zero]; rfl) (by kernel_rfl) (by kernel_rfl) (by kernel_rfl) (by exact fun _ _ _ h => h) (Or.inr ⟨by rfl, rfl⟩) (by assumption) ?_
  try simp only [Act.put, List.setIfInBounds_toArray, List.set_cons_zero, List.set_cons_succ]
  refine wpAnyH_take (i := 25) (v := undef) (by simp only [List.getElem?_toArray, List.getElem?_cons_succ, List.getElem?_cons_zero]; rfl) (by kernel_rfl) (by kernel_rfl) (by kernel_rfl) (by exact fun _ _ _ h => h) (Or.inr ⟨by rfl, rfl⟩) (by assumption) ?_
  try simp only [Act.put, List.setIfInBounds_toArray, List.set_cons_zero, List.set_cons_succ]
  refine wpAnyH_take (i := 26) (v := undef) (by simp only [List.getElem?_toArray, List.getElem?_cons_succ, List.getElem?_cons_zero]; rfl) (by kernel_rfl) (by kernel_rfl) (by kernel_rfl) (by exact fun _ _ _ h => h) (Or.inr ⟨by rfl, rfl⟩) (by assumption) ?_
  try simp only [Act.put, List.setIfInBounds_toArray, List.set_cons_zero, List.set_cons_succ]
  refine wpAnyH_take (i := 28) (v := undef) (by simp only [List.getElem?_toArray, List.getElem?_cons_succ, List.getElem?_cons_zero]; rfl) (by kernel_rfl) (by kernel_rfl) (by kernel_rfl) (by exact fun _ _ _ h => h) (Or.inr ⟨by rfl, rfl⟩) (by assumption) ?_
  try simp only [Act.put, List.setIfInBounds_toArray, List.set_cons_zero, List.set_cons_succ]
  refine wpAnyH_take (i := 27) (v := undef) (by simp only [List.getElem?_toArray, List.getElem?_cons_succ, List.getElem?_cons_zero]; rfl) (by kernel_rfl) (by kernel_rfl) (by kernel_rfl) (by exact fun _ _ _ h => h) (Or.inr ⟨by rfl, rfl⟩) (by assumption) ?_
  try simp only [Act.put, List.setIfInBounds_toArray, List.set_cons_zero, List.set_cons_succ]
  refine wpAnyH_take (i := 29) (v := undef) (by simp only [List.getElem?_toArray, List.getElem?_cons_succ, List.getElem?_cons_zero]; rfl) (by kernel_rfl) (by kernel_rfl) (by kernel_rfl) (by exact fun _ _ _ h => h) (Or.inr ⟨by rfl, rfl⟩) (by assumption) ?_
  try simp only [Act.put, List.setIfInBounds_toArray, List.set_cons_zero, List.set_cons_succ]
  refine wpAnyH_take (i := 30) (v := ?v24) (by simp only [List.getElem?_toArray, List.getElem?_cons_succ, List.getElem?_cons_zero]; rfl) (by kernel_rfl) (by kernel_rfl) (by kernel_rfl) (by exact fun _ _ _ h => h) (Or.inl ⟨by rfl, ?hy24⟩) (by assumption) ?rest24
  case hy24 => intro w hSw; (try dsimp only at hSw); go_simp; try (with_reducible rfl)
  case rest24 =>
  try simp only [Act.put, List.setIfInBounds_toArray, List.set_cons_zero, List.set_cons_succ]
  refine wpAnyH_take (i := 31) (v := ?v25) (by simp only [List.getElem?_toArray, List.getElem?_cons_succ, List.getElem?_cons_zero]; rfl) (by kernel_rfl) (by kernel_rfl) (by kernel_rfl) (by exact fun _ _ _ h => h) (Or.inl ⟨by rfl, ?hy25⟩) (by assumption) ?rest25
  case hy25 => intro w hSw; (try dsimp only at hSw); go_simp; try (with_reducible rfl)
  case rest25 =>
  try simp only [Act.put, List.setIfInBounds_toArray, List.set_cons_zero, List.set_cons_succ]
  refine wpAnyH_done (by kernel_rfl) ?_ _
  go_wp2_with fail
  refine wp_gen (fun W => Five w vp p B C (x, 0, false) (lk, ld, true) (-2147483648, 0, false) (lk, ld, true) (-2147483648, 0, false) W) (HF.out.ext (((Kept.refl _ _).drew).trans gLub)) ?_
  clear r0 r1 r2 r3 r4 r5 r6 r7 r8 r9 r10 r11 r12 r13 r14 rk HF
  rintro V hF
  have HF := hid0 hF
  obtain ⟨r0, r1, r2, r3, r4, r5, r6, r7, r8, r9, r10, r11, r12, r13, r14, rk⟩ := hF.cells (Kept.refl _ _)
  clear hF
  refine wp_region_held_drew (S := fun W' => W'.cell? ⟨B, 0, none⟩ = some (.int .i32 (x)) ∧ W'.cell? ⟨B, 1, none⟩ = some (.int .i64 (0)) ∧ W'.cell? ⟨B, 2, none⟩ = some (.bool (false)) ∧ W'.cell? ⟨B + 1, 0, none⟩ = some (.int .i32 (lk)) ∧ W'.cell? ⟨B + 1, 1, none⟩ = some (.int .i64 (ld)) ∧ W'.cell? ⟨B + 1, 2, none⟩ = some (.bool (true)) ∧ W'.cell? ⟨B + 1 + 1, 0, none⟩ = some (.int .i32 (-2147483648)) ∧ W'.cell? ⟨B + 1 + 1, 1, none⟩ = some (.int .i64 (0)) ∧ W'.cell? ⟨B + 1 + 1, 2, none⟩ = some (.bool (false)) ∧ W'.cell? ⟨C, 0, none⟩ = some (.int .i32 (lk)) ∧ W'.cell? ⟨C, 1, none⟩ = some (.int .i64 (ld)) ∧ W'.cell? ⟨C, 2, none⟩ = some (.bool (true)) ∧ W'.cell? ⟨C + 1, 0, none⟩ = some (.int .i32 (-2147483648)) ∧ W'.cell? ⟨C + 1, 1, none⟩ = some (.int .i64 (0)) ∧ W'.cell? ⟨C + 1, 2, none⟩ = some (.bool (false)) ∧ Kept Non V W') (by kernel_rfl) (HF.out.cells (Kept.refl _ _).drew) (fun hHeld => ?_)
  refine wpAnyH_take (i := 0) (v := ?v26) (by simp only [List.getElem?_toArray, List.getElem?_cons_zero]; rfl) (by kernel_rfl) (by kernel_rfl) (by kernel_rfl) (by exact fun _ _ _ h => h) (Or.inl ⟨by rfl, ?hy26⟩) (by assumption) ?rest26
  case hy26 => intro w hSw; (try dsimp only at hSw); go_simp; try (with_reducible rfl)
  case rest26 =>
  try simp only [Act.put, List.setIfInBounds_toArray, List.set_cons_zero, List.set_cons_succ]
  refine wpAnyH_take (i := 1) (v := ?v27) (by simp only [List.getElem?_toArray, List.getElem?_cons_succ, List.getElem?_cons_zero]; rfl) (by kernel_rfl) (by kernel_rfl) (by kernel_rfl) (by exact fun _ _ _ h => h) (Or.inl ⟨by rfl, ?hy27⟩) (by assumption) ?rest27
  case hy27 => intro w hSw; (try dsimp only at hSw); go_simp; try (with_reducible rfl)
  case rest27 =>
  try simp only [Act.put, List.setIfInBounds_toArray, List.set_cons_zero, List.set_cons_succ]
  refine wpAnyH_take (i := 2) (v := ?v28) (by simp only [List.getElem?_toArray, List.getElem?_cons_succ, List.getElem?_cons_zero]; rfl) (by kernel_rfl) (by kernel_rfl) (by kernel_rfl) (by exact fun _ _ _ h => h) (Or.inl ⟨by rfl, ?hy28⟩) (by assumption) ?rest28
  case hy28 => intro w hSw; (try dsimp only at hSw); go_simp; try (with_reducible rfl)
  case rest28 =>
  try simp only [Act.put, List.setIfInBounds_toArray, List.set_cons_zero, List.set_cons_succ]
  refine wpAnyH_take (i := 3) (v := undef) (by simp only [List.getElem?_toArray, List.getElem?_cons_succ, List.getElem?_cons_zero]; rfl) (by kernel_rfl) (by kernel_rfl) (by kernel_rfl) (by exact fun _ _ _ h => h) (Or.inr ⟨by rfl, rfl⟩) (by assumption) ?_
  try simp only [Act.put, List.setIfInBounds_toArray, List.set_cons_zero, List.set_cons_succ]
  refine wpAnyH_take (i := 4) (v := undef) (by simp only [List.getElem?_toArray, List.getElem?_cons_succ, List.getElem?_cons_zero]; rfl) (by kernel_rfl) (by kernel_rfl) (by kernel_rfl) (by exact fun _ _ _ h => h) (Or.inr ⟨by rfl, rfl⟩) (by assumption) ?_
  try simp only [Act.put, List.setIfInBounds_toArray, List.set_cons_zero, List.set_cons_succ]
  refine wpAnyH_take (i := 5) (v := undef) (by simp only [List.getElem?_toArray, List.getElem?_cons_succ, List.getElem?_cons_zero]; rfl) (by kernel_rfl) (by kernel_rfl) (by kernel_rfl) (by exact fun _ _ _ h => h) (Or.inr ⟨by rfl, rfl⟩) (by assumption) ?_
  try simp only [Act.put, List.setIfInBounds_toArray, List.set_cons_zero, List.set_cons_succ]
  refine wpAnyH_take (i := 6) (v := undef) (by simp only [List.getElem?_toArray, List.getElem?_cons_succ, List.getElem?_cons_zero]; rfl) (by kernel_rfl) (by kernel_rfl) (by kernel_rfl) (by exact fun _ _ _ h => h) (Or.inr ⟨by rfl, rfl⟩) (by assumption) ?_
  try simp only [Act.put, List.setIfInBounds_toArray, List.set_cons_zero, List.set_cons_succ]
  refine wpAnyH_take (i := 7) (v := ?v29) (by simp only [List.getElem?_toArray, List.getElem?_cons_succ, List.getElem?_cons_zero]; rfl) (by kernel_rfl) (by kernel_rfl) (by kernel_rfl) (by exact fun _ _ _ h => h) (Or.inl ⟨by rfl, ?hy29⟩) (by assumption) ?rest29
  case hy29 => intro w hSw; (try dsimp only at hSw); go_simp; try (with_reducible rfl)
  case rest29 =>
  try simp only [Act.put, List.setIfInBounds_toArray, List.set_cons_zero, List.set_cons_succ]
  refine wpAnyH_take (i := 8) (v := ?v30) (by simp only [List.getElem?_toArray, List.getElem?_cons_succ, List.getElem?_cons_zero]; rfl) (by kernel_rfl) (by kernel_rfl) (by kernel_rfl) (by exact fun _ _ _ h => h) (Or.inl ⟨by rfl, ?hy30⟩) (by assumption) ?rest30
  case hy30 => intro w hSw; (try dsimp only at hSw); go_simp; try (with_reducible rfl)
  case rest30 =>
  try simp only [Act.put, List.setIfInBounds_toArray, List.set_cons_zero, List.set_cons_succ]
  refine wpAnyH_take (i := 9) (v := ?v31) (by simp only [List.getElem?_toArray, List.getElem?_cons_succ, List.getElem?_cons_zero]; rfl) (by kernel_rfl) (by kernel_rfl) (by kernel_rfl) (by exact fun _ _ _ h => h) (Or.inl ⟨by rfl, ?hy31⟩) (by assumption) ?rest31
  case hy31 => intro w hSw; (try dsimp only at hSw); go_simp; try (with_reducible rfl)
  case rest31 =>
  try simp only [Act.put, List.setIfInBounds_toArray, List.set_cons_zero, List.set_cons_succ]
  refine wpAnyH_take (i := 10) (v := ?v32) (by simp only [List.getElem?_toArray, List.getElem?_cons_succ, List.getElem?_cons_zero]; rfl) (by kernel_rfl) (by kernel_rfl) (by kernel_rfl) (by exact fun _ _ _ h => h) (Or.inl ⟨by rfl, ?hy32⟩) (by assumption) ?rest32
  case hy32 => intro w hSw; (try dsimp only at hSw); go_simp; try (with_reducible rfl)
  case rest32 =>
  try simp only [Act.put, List.setIfInBounds_toArray, List.set_cons_zero, List.set_cons_succ]
  refine wpAnyH_take (i := 11) (v := ?v33) (by simp only [List.getElem?_toArray, List.getElem?_cons_succ, List.getElem?_cons_zero]; rfl) (by kernel_rfl) (by kernel_rfl) (by kernel_rfl) (by exact fun _ _ _ h => h) (Or.inl ⟨by rfl, ?hy33⟩) (by assumption) ?rest33
  case hy33 => intro w hSw; (try dsimp only at hSw); go_simp; try (with_reducible rfl)
  case rest33 =>
  try simp only [Act.put, List.setIfInBounds_toArray, List.set_cons_zero, List.set_cons_succ]
  refine wpAnyH_take (i := 12) (v := ?v34) (by simp only [List.getElem?_toArray, List.getElem?_cons_succ, List.getElem?_cons_zero]; rfl) (by kernel_rfl) (by kernel_rfl) (by kernel_rfl) (by exact fun _ _ _ h => h) (Or.inl ⟨by rfl, ?hy34⟩) (by assumption) ?rest34
  case hy34 => intro w hSw; (try dsimp only at hSw); go_simp; try (with_reducible rfl)
  case rest34 =>
  try simp only [Act.put, List.setIfInBounds_toArray, List.set_cons_zero, List.set_cons_succ]
  refine wpAnyH_take (i := 13) (v := ?v35) (by simp only [List.getElem?_toArray, List.getElem?_cons_succ, List.getElem?_cons_zero]; rfl) (by kernel_rfl) (by kernel_rfl) (by kernel_rfl) (by exact fun _ _ _ h => h) (Or.inl ⟨by rfl, ?hy35⟩) (by assumption) ?rest35
  case hy35 => intro w hSw; (try dsimp only at hSw); go_simp; try (with_reducible rfl)
  case rest35 =>
  try simp only [Act.put, List.setIfInBounds_toArray, List.set_cons_zero, List.set_cons_succ]
  refine wpAnyH_ready (rs := [14]) (by kernel_rfl) (by simp) ?_
  refine AllReadyH.cons (by simp only [List.getElem?_toArray, List.getElem?_cons_succ, List.getElem?_cons_zero]; rfl) (fun K hK => ?_) AllReadyH.nil
  go_simp
  go_at_call 37
  refine (Max_any _ _ p  (HF.out.sl.ext ((Kept.refl _ _).drew)) (by omega) HOK.out).mono ?_
  rintro e WMax ⟨rfl, gMax⟩
  rw [HA.out.most rfl rfl]
  rw [show fdOf _ = (lk, ld, true) from rfl]
  simp only [fv]
  go_wp2_with fail
  refine hK.out _ _ ?_ (fun hHeld => ?_)
  · exact HF.out.cells (((Kept.refl _ _).drew).trans gMax)
  clear hK K
  try simp only [Act.put, List.setIfInBounds_toArray, List.set_cons_zero, List.set_cons_succ]
  refine wpAnyH_take (i := 15) (v := ?v36) (by simp only [List.getElem?_toArray, List.getElem?_cons_succ, List.getElem?_cons_zero]; rfl) (by kernel_rfl) (by kernel_rfl) (by kernel_rfl) (by exact fun _ _ _ h => h) (Or.inl ⟨by rfl, ?hy36⟩) (by assumption) ?rest36
  case hy36 => intro w hSw; (try dsimp only at hSw); go_simp; try (with_reducible rfl)
  case rest36 =>
  try simp only [Act.put, List.setIfInBounds_toArray, List.set_cons_zero, List.set_cons_succ]
  refine wpAnyH_take (i := 16) (v := ?v37) (by simp only [List.getElem?_toArray, List.getElem?_cons_succ, List.getElem?_cons_zero]; rfl) (by kernel_rfl) (by kernel_rfl) (by kernel_rfl) (by exact fun _ _ _ h => h) (Or.inl ⟨by rfl, ?hy37⟩) (by assumption) ?rest37
  case hy37 => intro w hSw; (try dsimp only at hSw); go_simp; try (with_reducible rfl)
  case rest37 =>
  try simp only [Act.put, List.setIfInBounds_toArray, List.set_cons_zero, List.set_cons_succ]
  refine wpAnyH_take (i := 17) (v := ?v38) (by simp only [List.getElem?_toArray, List.getElem?_cons_succ, List.getElem?_cons_zero]; rfl) (by kernel_rfl) (by kernel_rfl) (by kernel_rfl) (by exact fun _ _ _ h => h) (Or.inl ⟨by rfl, ?hy38⟩) (by assumption) ?rest38
  case hy38 => intro w hSw; (try dsimp only at hSw); go_simp; try (with_reducible rfl)
  case rest38 =>
  try simp only [Act.put, List.setIfInBounds_toArray, List.set_cons_zero, List.set_cons_succ]
  refine wpAnyH_take (i := 18) (v := ?v39) (by simp only [List.getElem?_toArray, List.getElem?_cons_succ, List.getElem?_cons_zero]; rfl) (by kernel_rfl) (by kernel_rfl) (by kernel_rfl) (by exact fun _ _ _ h => h) (Or.inl ⟨by rfl, ?hy39⟩) (by assumption) ?rest39
  case hy39 => intro w hSw; (try dsimp only at hSw); go_simp; try (with_reducible rfl)
  case rest39 =>
  try simp only [Act.put, List.setIfInBounds_toArray, List.set_cons_zero, List.set_cons_succ]
  refine wpAnyH_take (i := 19) (v := ?v40) (by simp only [List.getElem?_toArray, List.getElem?_cons_succ, List.getElem?_cons_zero]; rfl) (by kernel_rfl) (by kernel_rfl) (by kernel_rfl) (by exact fun _ _ _ h => h) (Or.inl ⟨by rfl, ?hy40⟩) (by assumption) ?rest40
  case hy40 => intro w hSw; (try dsimp only at hSw); go_simp; try (with_reducible rfl)
  case rest40 =>
  try simp only [Act.put, List.setIfInBounds_toArray, List.set_cons_zero, List.set_cons_succ]
  refine wpAnyH_take (i := 20) (v := ?v41) (by simp only [List.getElem?_toArray, List.getElem?_cons_succ, List.getElem?_cons_zero]; rfl) (by kernel_rfl) (by kernel_rfl) (by kernel_rfl) (by exact fun _ _ _ h => h) (Or.inl ⟨by rfl, ?hy41⟩) (by assumption) ?rest41
  case hy41 => intro w hSw; (try dsimp only at hSw); go_simp; try (with_reducible rfl)
  case rest41 =>
  try simp only [Act.put, List.setIfInBounds_toArray, List.set_cons_zero, List.set_cons_succ]
  refine wpAnyH_take (i := 21) (v := ?v42) (by simp only [List.getElem?_toArray, List.getElem?_cons_succ, List.getElem?_cons_zero]; rfl) (by kernel_rfl) (by kernel_rfl) (by kernel_rfl) (by exact fun _ _ _ h => h) (Or.inl ⟨by rfl, ?hy42⟩) (by assumption) ?rest42
  case hy42 => intro w hSw; (try dsimp only at hSw); go_simp; try (with_reducible rfl)
  case rest42 =>
  try simp only [Act.put, List.setIfInBounds_toArray, List.set_cons_zero, List.set_cons_succ]
  refine wpAnyH_take (i := 22) (v := ?v43) (by simp only [List.getElem?_toArray, List.getElem?_cons_succ, List.getElem?_cons_zero]; rfl) (by kernel_rfl) (by kernel_rfl) (by kernel_rfl) (by exact fun _ _ _ h => h) (Or.inl ⟨by rfl, ?hy43⟩) (by assumption) ?rest43
  case hy43 => intro w hSw; (try dsimp only at hSw); go_simp; try (with_reducible rfl)
  case rest43 =>
  try simp only [Act.put, List.setIfInBounds_toArray, List.set_cons_zero, List.set_cons_succ]
  refine wpAnyH_take (i := 23) (v := ?v44) (by simp only [List.getElem?_toArray, List.getElem?_cons_succ, List.getElem?_cons_zero]; rfl) (by kernel_rfl) (by kernel_rfl) (by kernel_rfl) (by exact fun _ _ _ h => h) (Or.inl ⟨by rfl, ?hy44⟩) (by assumption) ?rest44
  case hy44 => intro w hSw; (try dsimp only at hSw); go_simp; try (with_reducible rfl)
  case rest44 =>
  try simp only [Act.put, List.setIfInBounds_toArray, List.set_cons_zero, List.set_cons_succ]
  refine wpAnyH_take (i := 24) (v := ?v45) (by simp only [List.getElem?_toArray, List.getElem?_cons_succ, List.getElem?_cons_zero]; rfl) (by kernel_rfl) (by kernel_rfl) (by kernel_rfl) (by exact fun _ _ _ h => h) (Or.inl ⟨by rfl, ?hy45⟩) (by assumption) ?rest45
  case hy45 => intro w hSw; (try dsimp only at hSw); go_simp; try (with_reducible rfl)
  case rest45 =>
  try simp only [Act.put, List.setIfInBounds_toArray, List.set_cons_zero, List.set_cons_succ]
  refine wpAnyH_take (i := 25) (v := ?v46) (by simp only [List.getElem?_toArray, List.getElem?_cons_succ, List.getElem?_cons_zero]; rfl) (by kernel_rfl) (by kernel_rfl) (by kernel_rfl) (by exact fun _ _ _ h => h) (Or.inl ⟨by rfl, ?hy46⟩) (by assumption) ?rest46
  case hy46 => intro w hSw; (try dsimp only at hSw); go_simp; try (with_reducible rfl)
  case rest46 =>
  try simp only [Act.put, List.setIfInBounds_toArray, List.set_cons_zero, List.set_cons_succ]
  refine wpAnyH_take (i := 26) (v := ?v47) (by simp only [List.getElem?_toArray, List.getElem?_cons_succ, List.getElem?_cons_zero]; rfl) (by kernel_rfl) (by kernel_rfl) (by kernel_rfl) (by exact fun _ _ _ h => h) (Or.inl ⟨by rfl, ?hy47⟩) (by assumption) ?rest47
  case hy47 => intro w hSw; (try dsimp only at hSw); go_simp; try (with_reducible rfl)
  case rest47 =>
  try simp only [Act.put, List.setIfInBounds_toArray, List.set_cons_zero, List.set_cons_succ]
  refine wpAnyH_done (by kernel_rfl) ?_ _
  go_wp2
  go_ret
  exact ⟨rfl, HF.out.kept.trans (((Kept.refl _ _).drew).trans gMax)⟩
set_option maxRecDepth 100000 in
set_option maxHeartbeats 1000000 in
theorem nb_001 (w : World) (vp : Value) (p : Ps) (hp : SlP w vp p) (lp : p.length ≤ 8796093021952) (HKp : Hid (keyedB p = true)) (HOK : Hid (KeysOk p)) (x : Int) (hk hd : Int) (HA : Hid (Abt x (treeP p) (none) (none) (some (hk, hd))))  :
    Calls Try.prog 9 #[vp, .int .i32 x] w fun e w' => e = .returned (.bool true) ∧ Kept Non w w' := by
  have G0 := hid0 (And.intro (Kept.refl Non w) hp)
  clear hp
  go_enter Try.func9, Try.ntmps9
  go_wp2_with fail
  refine (keyed_any _ _ p G0.out.2 (by omega)).mono ?_
  rintro e W1 ⟨rfl, g⟩
  have G1 := hid0 (And.intro (G0.out.1.trans g) (G0.out.2.ext g))
  clear g G0
  rw [HKp.out]
  go_wp2_with fail
  refine (Find_any _ _ p x G1.out.2 (by omega) HOK.out).mono ?_
  rintro e W2 ⟨rfl, g⟩
  have G2 := hid0 (And.intro (G1.out.1.trans g) (G1.out.2.ext g))
  clear g G1
  rw [HA.out.here]
  rw [show fdAt x _ = (x, 0, false) from rfl]
  simp only [fv]
  go_wp2_with fail
  refine (Glb_any _ _ p x G2.out.2 (by omega) HOK.out).mono ?_
  rintro e W3 ⟨rfl, g⟩
  have G3 := hid0 (And.intro (G2.out.1.trans g) (G2.out.2.ext g))
  clear g G2
  rw [HA.out.low]
  rw [show fdOf _ = (-2147483648, 0, false) from rfl]
  simp only [fv]
  go_wp2_with fail
  refine (Lub_any _ _ p x G3.out.2 (by omega) HOK.out).mono ?_
  rintro e W4 ⟨rfl, g⟩
  have G4 := hid0 (And.intro (G3.out.1.trans g) (G3.out.2.ext g))
  clear g G3
  rw [HA.out.high]
  rw [show fdOf _ = (hk, hd, true) from rfl]
  simp only [fv]
  go_wp2_with fail
  refine (GlbEq_any _ _ p x (G4.out.2.ext ((((Kept.refl _ _).alloc _).alloc _).alloc _)) (by omega) HOK.out).mono ?_
  rintro e W5 ⟨rfl, g⟩
  have G5 := hid0 (And.intro ((G4.out.1.trans ((((Kept.refl _ _).alloc _).alloc _).alloc _)).trans g) (And.intro ((G4.out.2.ext ((((Kept.refl _ _).alloc _).alloc _).alloc _)).ext g) (And.intro ((fd3 (f := (x, 0, false)) (g := (-2147483648, 0, false)) (h := (hk, hd, true)) g).1) (And.intro ((fd3 (f := (x, 0, false)) (g := (-2147483648, 0, false)) (h := (hk, hd, true)) g).2.1) ((fd3 (f := (x, 0, false)) (g := (-2147483648, 0, false)) (h := (hk, hd, true)) g).2.2)))))
  clear g G4
  rw [HA.out.below]
  rw [show fdOf _ = (-2147483648, 0, false) from rfl]
  simp only [fv]
  go_wp2_with fail
  refine (LubEq_any _ _ p x G5.out.2.1 (by omega) HOK.out).mono ?_
  rintro e W6 ⟨rfl, g⟩
  have G6 := hid0 (And.intro (G5.out.1.trans g) (And.intro (G5.out.2.1.ext g) (And.intro (G5.out.2.2.1.ext g) (And.intro (G5.out.2.2.2.1.ext g) (G5.out.2.2.2.2.ext g)))))
  clear g G5
  rw [HA.out.above]
  rw [show fdOf _ = (hk, hd, true) from rfl]
  simp only [fv]
  have h2 := fd_has G6.out.2.2.1
  go_wp2_with fail
  refine wp_gen (fun W => Five w vp p (W4.heap.size) (W6.heap.size) (x, 0, false) (-2147483648, 0, false) (hk, hd, true) (-2147483648, 0, false) (hk, hd, true) W) ⟨G6.out.2.2.1.ext (((Kept.refl _ _).alloc _).alloc _), G6.out.2.2.2.1.ext (((Kept.refl _ _).alloc _).alloc _), G6.out.2.2.2.2.ext (((Kept.refl _ _).alloc _).alloc _), (fd2 (f := (-2147483648, 0, false)) (g := (hk, hd, true))).1, (fd2 (f := (-2147483648, 0, false)) (g := (hk, hd, true))).2, (G6.out.1.alloc _).alloc _, G6.out.2.1.ext (((Kept.refl _ _).alloc _).alloc _)⟩ ?_
  rintro W hF
  have HF := hid0 hF
  obtain ⟨r0, r1, r2, r3, r4, r5, r6, r7, r8, r9, r10, r11, r12, r13, r14, rk⟩ := hF.cells (Kept.refl _ _)
  obtain ⟨B, hB⟩ : ∃ B, B = W4.heap.size := ⟨_, rfl⟩
  obtain ⟨C, hC⟩ : ∃ C, C = W6.heap.size := ⟨_, rfl⟩
  rw [← hB] at HF r0 r1 r2 r3 r4 r5 r6 r7 r8 ⊢
  rw [← hC] at HF r9 r10 r11 r12 r13 r14 ⊢
  clear hF h2 hB hC G6
  refine wp_region_held_drew (S := fun W' => W'.cell? ⟨B, 0, none⟩ = some (.int .i32 (x)) ∧ W'.cell? ⟨B, 1, none⟩ = some (.int .i64 (0)) ∧ W'.cell? ⟨B, 2, none⟩ = some (.bool (false)) ∧ W'.cell? ⟨B + 1, 0, none⟩ = some (.int .i32 (-2147483648)) ∧ W'.cell? ⟨B + 1, 1, none⟩ = some (.int .i64 (0)) ∧ W'.cell? ⟨B + 1, 2, none⟩ = some (.bool (false)) ∧ W'.cell? ⟨B + 1 + 1, 0, none⟩ = some (.int .i32 (hk)) ∧ W'.cell? ⟨B + 1 + 1, 1, none⟩ = some (.int .i64 (hd)) ∧ W'.cell? ⟨B + 1 + 1, 2, none⟩ = some (.bool (true)) ∧ W'.cell? ⟨C, 0, none⟩ = some (.int .i32 (-2147483648)) ∧ W'.cell? ⟨C, 1, none⟩ = some (.int .i64 (0)) ∧ W'.cell? ⟨C, 2, none⟩ = some (.bool (false)) ∧ W'.cell? ⟨C + 1, 0, none⟩ = some (.int .i32 (hk)) ∧ W'.cell? ⟨C + 1, 1, none⟩ = some (.int .i64 (hd)) ∧ W'.cell? ⟨C + 1, 2, none⟩ = some (.bool (true)) ∧ Kept Non W W') (by kernel_rfl) (HF.out.cells (Kept.refl _ _).drew) (fun hHeld => ?_)
  refine wpAnyH_take (i := 0) (v := ?v1) (by simp only [List.getElem?_toArray, List.getElem?_cons_zero]; rfl) (by kernel_rfl) (by kernel_rfl) (by kernel_rfl) (by exact fun _ _ _ h => h) (Or.inl ⟨by rfl, ?hy1⟩) (by assumption) ?rest1
  case hy1 => intro w hSw; (try dsimp only at hSw); go_simp; try (with_reducible rfl)
  case rest1 =>
  try simp only [Act.put, List.setIfInBounds_toArray, List.set_cons_zero, List.set_cons_succ]
  refine wpAnyH_take (i := 1) (v := ?v2) (by simp only [List.getElem?_toArray, List.getElem?_cons_succ, List.getElem?_cons_zero]; rfl) (by kernel_rfl) (by kernel_rfl) (by kernel_rfl) (by exact fun _ _ _ h => h) (Or.inl ⟨by rfl, ?hy2⟩) (by assumption) ?rest2
  case hy2 => intro w hSw; (try dsimp only at hSw); go_simp; try (with_reducible rfl)
  case rest2 =>
  try simp only [Act.put, List.setIfInBounds_toArray, List.set_cons_zero, List.set_cons_succ]
  refine wpAnyH_take (i := 2) (v := ?v3) (by simp only [List.getElem?_toArray, List.getElem?_cons_succ, List.getElem?_cons_zero]; rfl) (by kernel_rfl) (by kernel_rfl) (by kernel_rfl) (by exact fun _ _ _ h => h) (Or.inl ⟨by rfl, ?hy3⟩) (by assumption) ?rest3
  case hy3 => intro w hSw; (try dsimp only at hSw); go_simp; try (with_reducible rfl)
  case rest3 =>
  try simp only [Act.put, List.setIfInBounds_toArray, List.set_cons_zero, List.set_cons_succ]
  refine wpAnyH_take (i := 3) (v := ?v4) (by simp only [List.getElem?_toArray, List.getElem?_cons_succ, List.getElem?_cons_zero]; rfl) (by kernel_rfl) (by kernel_rfl) (by kernel_rfl) (by exact fun _ _ _ h => h) (Or.inl ⟨by rfl, ?hy4⟩) (by assumption) ?rest4
  case hy4 => intro w hSw; (try dsimp only at hSw); go_simp; try (with_reducible rfl)
  case rest4 =>
  try simp only [Act.put, List.setIfInBounds_toArray, List.set_cons_zero, List.set_cons_succ]
  refine wpAnyH_take (i := 4) (v := ?v5) (by simp only [List.getElem?_toArray, List.getElem?_cons_succ, List.getElem?_cons_zero]; rfl) (by kernel_rfl) (by kernel_rfl) (by kernel_rfl) (by exact fun _ _ _ h => h) (Or.inl ⟨by rfl, ?hy5⟩) (by assumption) ?rest5
  case hy5 => intro w hSw; (try dsimp only at hSw); go_simp; try (with_reducible rfl)
  case rest5 =>
  try simp only [Act.put, List.setIfInBounds_toArray, List.set_cons_zero, List.set_cons_succ]
  refine wpAnyH_take (i := 5) (v := ?v6) (by simp only [List.getElem?_toArray, List.getElem?_cons_succ, List.getElem?_cons_zero]; rfl) (by kernel_rfl) (by kernel_rfl) (by kernel_rfl) (by exact fun _ _ _ h => h) (Or.inl ⟨by rfl, ?hy6⟩) (by assumption) ?rest6
  case hy6 => intro w hSw; (try dsimp only at hSw); go_simp; try (with_reducible rfl)
  case rest6 =>
  try simp only [Act.put, List.setIfInBounds_toArray, List.set_cons_zero, List.set_cons_succ]
  refine wpAnyH_take (i := 6) (v := ?v7) (by simp only [List.getElem?_toArray, List.getElem?_cons_succ, List.getElem?_cons_zero]; rfl) (by kernel_rfl) (by kernel_rfl) (by kernel_rfl) (by exact fun _ _ _ h => h) (Or.inl ⟨by rfl, ?hy7⟩) (by assumption) ?rest7
  case hy7 => intro w hSw; (try dsimp only at hSw); go_simp; try (with_reducible rfl)
  case rest7 =>
  try simp only [Act.put, List.setIfInBounds_toArray, List.set_cons_zero, List.set_cons_succ]
  refine wpAnyH_take (i := 7) (v := ?v8) (by simp only [List.getElem?_toArray, List.getElem?_cons_succ, List.getElem?_cons_zero]; rfl) (by kernel_rfl) (by kernel_rfl) (by kernel_rfl) (by exact fun _ _ _ h => h) (Or.inl ⟨by rfl, ?hy8⟩) (by assumption) ?rest8
  case hy8 => intro w hSw; (try dsimp only at hSw); go_simp; try (with_reducible rfl)
  case rest8 =>
  try simp only [Act.put, List.setIfInBounds_toArray, List.set_cons_zero, List.set_cons_succ]
  refine wpAnyH_take (i := 8) (v := ?v9) (by simp only [List.getElem?_toArray, List.getElem?_cons_succ, List.getElem?_cons_zero]; rfl) (by kernel_rfl) (by kernel_rfl) (by kernel_rfl) (by exact fun _ _ _ h => h) (Or.inl ⟨by rfl, ?hy9⟩) (by assumption) ?rest9
  case hy9 => intro w hSw; (try dsimp only at hSw); go_simp; try (with_reducible rfl)
  case rest9 =>
  try simp only [Act.put, List.setIfInBounds_toArray, List.set_cons_zero, List.set_cons_succ]
  refine wpAnyH_take (i := 9) (v := ?v10) (by simp only [List.getElem?_toArray, List.getElem?_cons_succ, List.getElem?_cons_zero]; rfl) (by kernel_rfl) (by kernel_rfl) (by kernel_rfl) (by exact fun _ _ _ h => h) (Or.inl ⟨by rfl, ?hy10⟩) (by assumption) ?rest10
  case hy10 => intro w hSw; (try dsimp only at hSw); go_simp; try (with_reducible rfl)
  case rest10 =>
  try simp only [Act.put, List.setIfInBounds_toArray, List.set_cons_zero, List.set_cons_succ]
  refine wpAnyH_take (i := 10) (v := ?v11) (by simp only [List.getElem?_toArray, List.getElem?_cons_succ, List.getElem?_cons_zero]; rfl) (by kernel_rfl) (by kernel_rfl) (by kernel_rfl) (by exact fun _ _ _ h => h) (Or.inl ⟨by rfl, ?hy11⟩) (by assumption) ?rest11
  case hy11 => intro w hSw; (try dsimp only at hSw); go_simp; try (with_reducible rfl)
  case rest11 =>
  try simp only [Act.put, List.setIfInBounds_toArray, List.set_cons_zero, List.set_cons_succ]
  refine wpAnyH_take (i := 11) (v := ?v12) (by simp only [List.getElem?_toArray, List.getElem?_cons_succ, List.getElem?_cons_zero]; rfl) (by kernel_rfl) (by kernel_rfl) (by kernel_rfl) (by exact fun _ _ _ h => h) (Or.inl ⟨by rfl, ?hy12⟩) (by assumption) ?rest12
  case hy12 => intro w hSw; (try dsimp only at hSw); go_simp; try (with_reducible rfl)
  case rest12 =>
  try simp only [Act.put, List.setIfInBounds_toArray, List.set_cons_zero, List.set_cons_succ]
  refine wpAnyH_take (i := 12) (v := undef) (by simp only [List.getElem?_toArray, List.getElem?_cons_succ, List.getElem?_cons_zero]; rfl) (by kernel_rfl) (by kernel_rfl) (by kernel_rfl) (by exact fun _ _ _ h => h) (Or.inr ⟨by rfl, rfl⟩) (by assumption) ?_
  try simp only [Act.put, List.setIfInBounds_toArray, List.set_cons_zero, List.set_cons_succ]
  refine wpAnyH_take (i := 13) (v := undef) (by simp only [List.getElem?_toArray, List.getElem?_cons_succ, List.getElem?_cons_zero]; rfl) (by kernel_rfl) (by kernel_rfl) (by kernel_rfl) (by exact fun _ _ _ h => h) (Or.inr ⟨by rfl, rfl⟩) (by assumption) ?_
  try simp only [Act.put, List.setIfInBounds_toArray, List.set_cons_zero, List.set_cons_succ]
  refine wpAnyH_take (i := 14) (v := undef) (by simp only [List.getElem?_toArray, List.getElem?_cons_succ, List.getElem?_cons_zero]; rfl) (by kernel_rfl) (by kernel_rfl) (by kernel_rfl) (by exact fun _ _ _ h => h) (Or.inr ⟨by rfl, rfl⟩) (by assumption) ?_
  try simp only [Act.put, List.setIfInBounds_toArray, List.set_cons_zero, List.set_cons_succ]
  refine wpAnyH_take (i := 16) (v := undef) (by simp only [List.getElem?_toArray, List.getElem?_cons_succ, List.getElem?_cons_zero]; rfl) (by kernel_rfl) (by kernel_rfl) (by kernel_rfl) (by exact fun _ _ _ h => h) (Or.inr ⟨by rfl, rfl⟩) (by assumption) ?_
  try simp only [Act.put, List.setIfInBounds_toArray, List.set_cons_zero, List.set_cons_succ]
  refine wpAnyH_take (i := 15) (v := undef) (by simp only [List.getElem?_toArray, List.getElem?_cons_succ, List.getElem?_cons_zero]; rfl) (by kernel_rfl) (by kernel_rfl) (by kernel_rfl) (by exact fun _ _ _ h => h) (Or.inr ⟨by rfl, rfl⟩) (by assumption) ?_
  try simp only [Act.put, List.setIfInBounds_toArray, List.set_cons_zero, List.set_cons_succ]
  refine wpAnyH_take (i := 17) (v := undef) (by simp only [List.getElem?_toArray, List.getElem?_cons_succ, List.getElem?_cons_zero]; rfl) (by kernel_rfl) (by kernel_rfl) (by kernel_rfl) (by exact fun _ _ _ h => h) (Or.inr ⟨by rfl, rfl⟩) (by assumption) ?_
  try simp only [Act.put, List.setIfInBounds_toArray, List.set_cons_zero, List.set_cons_succ]
  refine wpAnyH_take (i := 18) (v := ?v13) (by simp only [List.getElem?_toArray, List.getElem?_cons_succ, List.getElem?_cons_zero]; rfl) (by kernel_rfl) (by kernel_rfl) (by kernel_rfl) (by exact fun _ _ _ h => h) (Or.inl ⟨by rfl, ?hy13⟩) (by assumption) ?rest13
  case hy13 => intro w hSw; (try dsimp only at hSw); go_simp; try (with_reducible rfl)
  case rest13 =>
  try simp only [Act.put, List.setIfInBounds_toArray, List.set_cons_zero, List.set_cons_succ]
  refine wpAnyH_take (i := 19) (v := ?v14) (by simp only [List.getElem?_toArray, List.getElem?_cons_succ, List.getElem?_cons_zero]; rfl) (by kernel_rfl) (by kernel_rfl) (by kernel_rfl) (by exact fun _ _ _ h => h) (Or.inl ⟨by rfl, ?hy14⟩) (by assumption) ?rest14
  case hy14 => intro w hSw; (try dsimp only at hSw); go_simp; try (with_reducible rfl)
  case rest14 =>
  try simp only [Act.put, List.setIfInBounds_toArray, List.set_cons_zero, List.set_cons_succ]
  refine wpAnyH_take (i := 20) (v := ?v15) (by simp only [List.getElem?_toArray, List.getElem?_cons_succ, List.getElem?_cons_zero]; rfl) (by kernel_rfl) (by kernel_rfl) (by kernel_rfl) (by exact fun _ _ _ h => h) (Or.inl ⟨by rfl, ?hy15⟩) (by assumption) ?rest15
  case hy15 => intro w hSw; (try dsimp only at hSw); go_simp; try (with_reducible rfl)
  case rest15 =>
  try simp only [Act.put, List.setIfInBounds_toArray, List.set_cons_zero, List.set_cons_succ]
  refine wpAnyH_take (i := 21) (v := ?v16) (by simp only [List.getElem?_toArray, List.getElem?_cons_succ, List.getElem?_cons_zero]; rfl) (by kernel_rfl) (by kernel_rfl) (by kernel_rfl) (by exact fun _ _ _ h => h) (Or.inl ⟨by rfl, ?hy16⟩) (by assumption) ?rest16
  case hy16 => intro w hSw; (try dsimp only at hSw); go_simp; try (with_reducible rfl)
  case rest16 =>
  try simp only [Act.put, List.setIfInBounds_toArray, List.set_cons_zero, List.set_cons_succ]
  refine wpAnyH_take (i := 22) (v := ?v17) (by simp only [List.getElem?_toArray, List.getElem?_cons_succ, List.getElem?_cons_zero]; rfl) (by kernel_rfl) (by kernel_rfl) (by kernel_rfl) (by exact fun _ _ _ h => h) (Or.inl ⟨by rfl, ?hy17⟩) (by assumption) ?rest17
  case hy17 => intro w hSw; (try dsimp only at hSw); go_simp; try (with_reducible rfl)
  case rest17 =>
  try simp only [Act.put, List.setIfInBounds_toArray, List.set_cons_zero, List.set_cons_succ]
  refine wpAnyH_take (i := 23) (v := ?v18) (by simp only [List.getElem?_toArray, List.getElem?_cons_succ, List.getElem?_cons_zero]; rfl) (by kernel_rfl) (by kernel_rfl) (by kernel_rfl) (by exact fun _ _ _ h => h) (Or.inl ⟨by rfl, ?hy18⟩) (by assumption) ?rest18
  case hy18 => intro w hSw; (try dsimp only at hSw); go_simp; try (with_reducible rfl)
  case rest18 =>
  try simp only [Act.put, List.setIfInBounds_toArray, List.set_cons_zero, List.set_cons_succ]
  refine wpAnyH_take (i := 24) (v := ?v19) (by simp only [List.getElem?_toArray, List.getElem?_cons_succ, List.getElem?_cons_zero]; rfl) (by kernel_rfl) (by kernel_rfl) (by kernel_rfl) (by exact fun _ _ _ h => h) (Or.inl ⟨by rfl, ?hy19⟩) (by assumption) ?rest19
  case hy19 => intro w hSw; (try dsimp only at hSw); go_simp; try (with_reducible rfl)
  case rest19 =>
  try simp only [Act.put, List.setIfInBounds_toArray, List.set_cons_zero, List.set_cons_succ]
  refine wpAnyH_take (i := 25) (v := ?v20) (by simp only [List.getElem?_toArray, List.getElem?_cons_succ, List.getElem?_cons_zero]; rfl) (by kernel_rfl) (by kernel_rfl) (by kernel_rfl) (by exact fun _ _ _ h => h) (Or.inl ⟨by rfl, ?hy20⟩) (by assumption) ?rest20
  case hy20 => intro w hSw; (try dsimp only at hSw); go_simp; try (with_reducible rfl)
  case rest20 =>
  try simp only [Act.put, List.setIfInBounds_toArray, List.set_cons_zero, List.set_cons_succ]
  refine wpAnyH_take (i := 26) (v := ?v21) (by simp only [List.getElem?_toArray, List.getElem?_cons_succ, List.getElem?_cons_zero]; rfl) (by kernel_rfl) (by kernel_rfl) (by kernel_rfl) (by exact fun _ _ _ h => h) (Or.inl ⟨by rfl, ?hy21⟩) (by assumption) ?rest21
  case hy21 => intro w hSw; (try dsimp only at hSw); go_simp; try (with_reducible rfl)
  case rest21 =>
  try simp only [Act.put, List.setIfInBounds_toArray, List.set_cons_zero, List.set_cons_succ]
  refine wpAnyH_take (i := 28) (v := ?v22) (by simp only [List.getElem?_toArray, List.getElem?_cons_succ, List.getElem?_cons_zero]; rfl) (by kernel_rfl) (by kernel_rfl) (by kernel_rfl) (by exact fun _ _ _ h => h) (Or.inl ⟨by rfl, ?hy22⟩) (by assumption) ?rest22
  case hy22 => intro w hSw; (try dsimp only at hSw); go_simp; try (with_reducible rfl)
  case rest22 =>
  try simp only [Act.put, List.setIfInBounds_toArray, List.set_cons_zero, List.set_cons_succ]
  refine wpAnyH_ready (rs := [27]) (by kernel_rfl) (by simp) ?_
  refine AllReadyH.cons (by simp only [List.getElem?_toArray, List.getElem?_cons_succ, List.getElem?_cons_zero]; rfl) (fun K hK => ?_) AllReadyH.nil
  go_simp
  go_at_call 32
  refine (Glb_any _ _ p hk (HF.out.sl.ext ((Kept.refl _ _).drew)) (by omega) HOK.out).mono ?_
  rintro e WGlb ⟨rfl, gGlb⟩
  rw [HA.out.down _ rfl]
  rw [show fdOf _ = (-2147483648, 0, false) from rfl]
  simp only [fv]
  go_wp2_with fail
  refine hK.out _ _ ?_ (fun hHeld => ?_)
  · exact HF.out.cells (((Kept.refl _ _).drew).trans gGlb)
  clear hK K
  try simp only [Act.put, List.setIfInBounds_toArray, List.set_cons_zero, List.set_cons_succ]
  refine wpAnyH_take (i := 29) (v := ?v23) (by simp only [List.getElem?_toArray, List.getElem?_cons_succ, List.getElem?_cons_zero]; rfl) (by kernel_rfl) (by kernel_rfl) (by kernel_rfl) (by exact fun _ _ _ h => h) (Or.inl ⟨by rfl, ?hy23⟩) (by assumption) ?rest23
  case hy23 => intro w hSw; (try dsimp only at hSw); go_simp; try (with_reducible rfl)
  case rest23 =>
  try simp only [Act.put, List.setIfInBounds_toArray, List.set_cons_zero, List.set_cons_succ]
  refine wpAnyH_take (i := 30) (v := ?v24) (by simp only [List.getElem?_toArray, List.getElem?_cons_succ, List.getElem?_cons_zero]; rfl) (by kernel_rfl) (by kernel_rfl) (by kernel_rfl) (by exact fun _ _ _ h => h) (Or.inl ⟨by rfl, ?hy24⟩) (by assumption) ?rest24
  case hy24 => intro w hSw; (try dsimp only at hSw); go_simp; try (with_reducible rfl)
  case rest24 =>
  try simp only [Act.put, List.setIfInBounds_toArray, List.set_cons_zero, List.set_cons_succ]
  refine wpAnyH_take (i := 31) (v := ?v25) (by simp only [List.getElem?_toArray, List.getElem?_cons_succ, List.getElem?_cons_zero]; rfl) (by kernel_rfl) (by kernel_rfl) (by kernel_rfl) (by exact fun _ _ _ h => h) (Or.inl ⟨by rfl, ?hy25⟩) (by assumption) ?rest25
  case hy25 => intro w hSw; (try dsimp only at hSw); go_simp; try (with_reducible rfl)
  case rest25 =>
  try simp only [Act.put, List.setIfInBounds_toArray, List.set_cons_zero, List.set_cons_succ]
  refine wpAnyH_done (by kernel_rfl) ?_ _
  go_wp2_with fail
  refine wp_gen (fun W => Five w vp p B C (x, 0, false) (-2147483648, 0, false) (hk, hd, true) (-2147483648, 0, false) (hk, hd, true) W) (HF.out.ext (((Kept.refl _ _).drew).trans gGlb)) ?_
  clear r0 r1 r2 r3 r4 r5 r6 r7 r8 r9 r10 r11 r12 r13 r14 rk HF
  rintro V hF
  have HF := hid0 hF
  obtain ⟨r0, r1, r2, r3, r4, r5, r6, r7, r8, r9, r10, r11, r12, r13, r14, rk⟩ := hF.cells (Kept.refl _ _)
  clear hF
  refine wp_region_held_drew (S := fun W' => W'.cell? ⟨B, 0, none⟩ = some (.int .i32 (x)) ∧ W'.cell? ⟨B, 1, none⟩ = some (.int .i64 (0)) ∧ W'.cell? ⟨B, 2, none⟩ = some (.bool (false)) ∧ W'.cell? ⟨B + 1, 0, none⟩ = some (.int .i32 (-2147483648)) ∧ W'.cell? ⟨B + 1, 1, none⟩ = some (.int .i64 (0)) ∧ W'.cell? ⟨B + 1, 2, none⟩ = some (.bool (false)) ∧ W'.cell? ⟨B + 1 + 1, 0, none⟩ = some (.int .i32 (hk)) ∧ W'.cell? ⟨B + 1 + 1, 1, none⟩ = some (.int .i64 (hd)) ∧ W'.cell? ⟨B + 1 + 1, 2, none⟩ = some (.bool (true)) ∧ W'.cell? ⟨C, 0, none⟩ = some (.int .i32 (-2147483648)) ∧ W'.cell? ⟨C, 1, none⟩ = some (.int .i64 (0)) ∧ W'.cell? ⟨C, 2, none⟩ = some (.bool (false)) ∧ W'.cell? ⟨C + 1, 0, none⟩ = some (.int .i32 (hk)) ∧ W'.cell? ⟨C + 1, 1, none⟩ = some (.int .i64 (hd)) ∧ W'.cell? ⟨C + 1, 2, none⟩ = some (.bool (true)) ∧ Kept Non V W') (by kernel_rfl) (HF.out.cells (Kept.refl _ _).drew) (fun hHeld => ?_)
  refine wpAnyH_take (i := 0) (v := ?v26) (by simp only [List.getElem?_toArray, List.getElem?_cons_zero]; rfl) (by kernel_rfl) (by kernel_rfl) (by kernel_rfl) (by exact fun _ _ _ h => h) (Or.inl ⟨by rfl, ?hy26⟩) (by assumption) ?rest26
  case hy26 => intro w hSw; (try dsimp only at hSw); go_simp; try (with_reducible rfl)
  case rest26 =>
  try simp only [Act.put, List.setIfInBounds_toArray, List.set_cons_zero, List.set_cons_succ]
  refine wpAnyH_take (i := 1) (v := ?v27) (by simp only [List.getElem?_toArray, List.getElem?_cons_succ, List.getElem?_cons_zero]; rfl) (by kernel_rfl) (by kernel_rfl) (by kernel_rfl) (by exact fun _ _ _ h => h) (Or.inl ⟨by rfl, ?hy27⟩) (by assumption) ?rest27
  case hy27 => intro w hSw; (try dsimp only at hSw); go_simp; try (with_reducible rfl)
  case rest27 =>
  try simp only [Act.put, List.setIfInBounds_toArray, List.set_cons_zero, List.set_cons_succ]
  refine wpAnyH_take (i := 2) (v := ?v28) (by simp only [List.getElem?_toArray, List.getElem?_cons_succ, List.getElem?_cons_zero]; rfl) (by kernel_rfl) (by kernel_rfl) (by kernel_rfl) (by exact fun _ _ _ h => h) (Or.inl ⟨by rfl, ?hy28⟩) (by assumption) ?rest28
  case hy28 => intro w hSw; (try dsimp only at hSw); go_simp; try (with_reducible rfl)
  case rest28 =>
  try simp only [Act.put, List.setIfInBounds_toArray, List.set_cons_zero, List.set_cons_succ]
  refine wpAnyH_take (i := 3) (v := ?v29) (by simp only [List.getElem?_toArray, List.getElem?_cons_succ, List.getElem?_cons_zero]; rfl) (by kernel_rfl) (by kernel_rfl) (by kernel_rfl) (by exact fun _ _ _ h => h) (Or.inl ⟨by rfl, ?hy29⟩) (by assumption) ?rest29
  case hy29 => intro w hSw; (try dsimp only at hSw); go_simp; try (with_reducible rfl)
  case rest29 =>
  try simp only [Act.put, List.setIfInBounds_toArray, List.set_cons_zero, List.set_cons_succ]
  refine wpAnyH_take (i := 4) (v := ?v30) (by simp only [List.getElem?_toArray, List.getElem?_cons_succ, List.getElem?_cons_zero]; rfl) (by kernel_rfl) (by kernel_rfl) (by kernel_rfl) (by exact fun _ _ _ h => h) (Or.inl ⟨by rfl, ?hy30⟩) (by assumption) ?rest30
  case hy30 => intro w hSw; (try dsimp only at hSw); go_simp; try (with_reducible rfl)
  case rest30 =>
  try simp only [Act.put, List.setIfInBounds_toArray, List.set_cons_zero, List.set_cons_succ]
  refine wpAnyH_ready (rs := [5]) (by kernel_rfl) (by simp) ?_
  refine AllReadyH.cons (by simp only [List.getElem?_toArray, List.getElem?_cons_succ, List.getElem?_cons_zero]; rfl) (fun K hK => ?_) AllReadyH.nil
  go_simp
  go_at_call 36
  refine (Min_any _ _ p  (HF.out.sl.ext ((Kept.refl _ _).drew)) (by omega) HOK.out).mono ?_
  rintro e WMin ⟨rfl, gMin⟩
  rw [HA.out.least rfl rfl]
  rw [show fdOf _ = (hk, hd, true) from rfl]
  simp only [fv]
  go_wp2_with fail
  refine hK.out _ _ ?_ (fun hHeld => ?_)
  · exact HF.out.cells (((Kept.refl _ _).drew).trans gMin)
  clear hK K
  try simp only [Act.put, List.setIfInBounds_toArray, List.set_cons_zero, List.set_cons_succ]
  refine wpAnyH_take (i := 6) (v := ?v31) (by simp only [List.getElem?_toArray, List.getElem?_cons_succ, List.getElem?_cons_zero]; rfl) (by kernel_rfl) (by kernel_rfl) (by kernel_rfl) (by exact fun _ _ _ h => h) (Or.inl ⟨by rfl, ?hy31⟩) (by assumption) ?rest31
  case hy31 => intro w hSw; (try dsimp only at hSw); go_simp; try (with_reducible rfl)
  case rest31 =>
  try simp only [Act.put, List.setIfInBounds_toArray, List.set_cons_zero, List.set_cons_succ]
  refine wpAnyH_take (i := 7) (v := ?v32) (by simp only [List.getElem?_toArray, List.getElem?_cons_succ, List.getElem?_cons_zero]; rfl) (by kernel_rfl) (by kernel_rfl) (by kernel_rfl) (by exact fun _ _ _ h => h) (Or.inl ⟨by rfl, ?hy32⟩) (by assumption) ?rest32
  case hy32 => intro w hSw; (try dsimp only at hSw); go_simp; try (with_reducible rfl)
  case rest32 =>
  try simp only [Act.put, List.setIfInBounds_toArray, List.set_cons_zero, List.set_cons_succ]
  refine wpAnyH_take (i := 8) (v := ?v33) (by simp only [List.getElem?_toArray, List.getElem?_cons_succ, List.getElem?_cons_zero]; rfl) (by kernel_rfl) (by kernel_rfl) (by kernel_rfl) (by exact fun _ _ _ h => h) (Or.inl ⟨by rfl, ?hy33⟩) (by assumption) ?rest33
  case hy33 => intro w hSw; (try dsimp only at hSw); go_simp; try (with_reducible rfl)
  case rest33 =>
  try simp only [Act.put, List.setIfInBounds_toArray, List.set_cons_zero, List.set_cons_succ]
  refine wpAnyH_take (i := 9) (v := ?v34) (by simp only [List.getElem?_toArray, List.getElem?_cons_succ, List.getElem?_cons_zero]; rfl) (by kernel_rfl) (by kernel_rfl) (by kernel_rfl) (by exact fun _ _ _ h => h) (Or.inl ⟨by rfl, ?hy34⟩) (by assumption) ?rest34
  case hy34 => intro w hSw; (try dsimp only at hSw); go_simp; try (with_reducible rfl)
  case rest34 =>
  try simp only [Act.put, List.setIfInBounds_toArray, List.set_cons_zero, List.set_cons_succ]
  refine wpAnyH_take (i := 10) (v := ?v35) (by simp only [List.getElem?_toArray, List.getElem?_cons_succ, List.getElem?_cons_zero]; rfl) (by kernel_rfl) (by kernel_rfl) (by kernel_rfl) (by exact fun _ _ _ h => h) (Or.inl ⟨by rfl, ?hy35⟩) (by assumption) ?rest35
  case hy35 => intro w hSw; (try dsimp only at hSw); go_simp; try (with_reducible rfl)
  case rest35 =>
  try simp only [Act.put, List.setIfInBounds_toArray, List.set_cons_zero, List.set_cons_succ]
  refine wpAnyH_take (i := 11) (v := ?v36) (by simp only [List.getElem?_toArray, List.getElem?_cons_succ, List.getElem?_cons_zero]; rfl) (by kernel_rfl) (by kernel_rfl) (by kernel_rfl) (by exact fun _ _ _ h => h) (Or.inl ⟨by rfl, ?hy36⟩) (by assumption) ?rest36
  case hy36 => intro w hSw; (try dsimp only at hSw); go_simp; try (with_reducible rfl)
  case rest36 =>
  try simp only [Act.put, List.setIfInBounds_toArray, List.set_cons_zero, List.set_cons_succ]
  refine wpAnyH_take (i := 12) (v := undef) (by simp only [List.getElem?_toArray, List.getElem?_cons_succ, List.getElem?_cons_zero]; rfl) (by kernel_rfl) (by kernel_rfl) (by kernel_rfl) (by exact fun _ _ _ h => h) (Or.inr ⟨by rfl, rfl⟩) (by assumption) ?_
  try simp only [Act.put, List.setIfInBounds_toArray, List.set_cons_zero, List.set_cons_succ]
  refine wpAnyH_take (i := 13) (v := undef) (by simp only [List.getElem?_toArray, List.getElem?_cons_succ, List.getElem?_cons_zero]; rfl) (by kernel_rfl) (by kernel_rfl) (by kernel_rfl) (by exact fun _ _ _ h => h) (Or.inr ⟨by rfl, rfl⟩) (by assumption) ?_
  try simp only [Act.put, List.setIfInBounds_toArray, List.set_cons_zero, List.set_cons_succ]
  refine wpAnyH_take (i := 14) (v := undef) (by simp only [List.getElem?_toArray, List.getElem?_cons_succ, List.getElem?_cons_zero]; rfl) (by kernel_rfl) (by kernel_rfl) (by kernel_rfl) (by exact fun _ _ _ h => h) (Or.inr ⟨by rfl, rfl⟩) (by assumption) ?_
  try simp only [Act.put, List.setIfInBounds_toArray, List.set_cons_zero, List.set_cons_succ]
  refine wpAnyH_take (i := 15) (v := undef) (by simp only [List.getElem?_toArray, List.getElem?_cons_succ, List.getElem?_cons_zero]; rfl) (by kernel_rfl) (by kernel_rfl) (by kernel_rfl) (by exact fun _ _ _ h => h) (Or.inr ⟨by rfl, rfl⟩) (by assumption) ?_
  try simp only [Act.put, List.setIfInBounds_toArray, List.set_cons_zero, List.set_cons_succ]
  refine wpAnyH_take (i := 16) (v := ?v37) (by simp only [List.getElem?_toArray, List.getElem?_cons_succ, List.getElem?_cons_zero]; rfl) (by kernel_rfl) (by kernel_rfl) (by kernel_rfl) (by exact fun _ _ _ h => h) (Or.inl ⟨by rfl, ?hy37⟩) (by assumption) ?rest37
  case hy37 => intro w hSw; (try dsimp only at hSw); go_simp; try (with_reducible rfl)
  case rest37 =>
  try simp only [Act.put, List.setIfInBounds_toArray, List.set_cons_zero, List.set_cons_succ]
  refine wpAnyH_take (i := 17) (v := ?v38) (by simp only [List.getElem?_toArray, List.getElem?_cons_succ, List.getElem?_cons_zero]; rfl) (by kernel_rfl) (by kernel_rfl) (by kernel_rfl) (by exact fun _ _ _ h => h) (Or.inl ⟨by rfl, ?hy38⟩) (by assumption) ?rest38
  case hy38 => intro w hSw; (try dsimp only at hSw); go_simp; try (with_reducible rfl)
  case rest38 =>
  try simp only [Act.put, List.setIfInBounds_toArray, List.set_cons_zero, List.set_cons_succ]
  refine wpAnyH_take (i := 18) (v := ?v39) (by simp only [List.getElem?_toArray, List.getElem?_cons_succ, List.getElem?_cons_zero]; rfl) (by kernel_rfl) (by kernel_rfl) (by kernel_rfl) (by exact fun _ _ _ h => h) (Or.inl ⟨by rfl, ?hy39⟩) (by assumption) ?rest39
  case hy39 => intro w hSw; (try dsimp only at hSw); go_simp; try (with_reducible rfl)
  case rest39 =>
  try simp only [Act.put, List.setIfInBounds_toArray, List.set_cons_zero, List.set_cons_succ]
  refine wpAnyH_take (i := 19) (v := ?v40) (by simp only [List.getElem?_toArray, List.getElem?_cons_succ, List.getElem?_cons_zero]; rfl) (by kernel_rfl) (by kernel_rfl) (by kernel_rfl) (by exact fun _ _ _ h => h) (Or.inl ⟨by rfl, ?hy40⟩) (by assumption) ?rest40
  case hy40 => intro w hSw; (try dsimp only at hSw); go_simp; try (with_reducible rfl)
  case rest40 =>
  try simp only [Act.put, List.setIfInBounds_toArray, List.set_cons_zero, List.set_cons_succ]
  refine wpAnyH_take (i := 20) (v := ?v41) (by simp only [List.getElem?_toArray, List.getElem?_cons_succ, List.getElem?_cons_zero]; rfl) (by kernel_rfl) (by kernel_rfl) (by kernel_rfl) (by exact fun _ _ _ h => h) (Or.inl ⟨by rfl, ?hy41⟩) (by assumption) ?rest41
  case hy41 => intro w hSw; (try dsimp only at hSw); go_simp; try (with_reducible rfl)
  case rest41 =>
  try simp only [Act.put, List.setIfInBounds_toArray, List.set_cons_zero, List.set_cons_succ]
  refine wpAnyH_take (i := 21) (v := ?v42) (by simp only [List.getElem?_toArray, List.getElem?_cons_succ, List.getElem?_cons_zero]; rfl) (by kernel_rfl) (by kernel_rfl) (by kernel_rfl) (by exact fun _ _ _ h => h) (Or.inl ⟨by rfl, ?hy42⟩) (by assumption) ?rest42
  case hy42 => intro w hSw; (try dsimp only at hSw); go_simp; try (with_reducible rfl)
  case rest42 =>
  try simp only [Act.put, List.setIfInBounds_toArray, List.set_cons_zero, List.set_cons_succ]
  refine wpAnyH_take (i := 22) (v := ?v43) (by simp only [List.getElem?_toArray, List.getElem?_cons_succ, List.getElem?_cons_zero]; rfl) (by kernel_rfl) (by kernel_rfl) (by kernel_rfl) (by exact fun _ _ _ h => h) (Or.inl ⟨by rfl, ?hy43⟩) (by assumption) ?rest43
  case hy43 => intro w hSw; (try dsimp only at hSw); go_simp; try (with_reducible rfl)
  case rest43 =>
  try simp only [Act.put, List.setIfInBounds_toArray, List.set_cons_zero, List.set_cons_succ]
  refine wpAnyH_take (i := 23) (v := ?v44) (by simp only [List.getElem?_toArray, List.getElem?_cons_succ, List.getElem?_cons_zero]; rfl) (by kernel_rfl) (by kernel_rfl) (by kernel_rfl) (by exact fun _ _ _ h => h) (Or.inl ⟨by rfl, ?hy44⟩) (by assumption) ?rest44
  case hy44 => intro w hSw; (try dsimp only at hSw); go_simp; try (with_reducible rfl)
  case rest44 =>
  try simp only [Act.put, List.setIfInBounds_toArray, List.set_cons_zero, List.set_cons_succ]
  refine wpAnyH_take (i := 24) (v := ?v45) (by simp only [List.getElem?_toArray, List.getElem?_cons_succ, List.getElem?_cons_zero]; rfl) (by kernel_rfl) (by kernel_rfl) (by kernel_rfl) (by exact fun _ _ _ h => h) (Or.inl ⟨by rfl, ?hy45⟩) (by assumption) ?rest45
  case hy45 => intro w hSw; (try dsimp only at hSw); go_simp; try (with_reducible rfl)
  case rest45 =>
  try simp only [Act.put, List.setIfInBounds_toArray, List.set_cons_zero, List.set_cons_succ]
  refine wpAnyH_take (i := 25) (v := ?v46) (by simp only [List.getElem?_toArray, List.getElem?_cons_succ, List.getElem?_cons_zero]; rfl) (by kernel_rfl) (by kernel_rfl) (by kernel_rfl) (by exact fun _ _ _ h => h) (Or.inl ⟨by rfl, ?hy46⟩) (by assumption) ?rest46
  case hy46 => intro w hSw; (try dsimp only at hSw); go_simp; try (with_reducible rfl)
  case rest46 =>
  try simp only [Act.put, List.setIfInBounds_toArray, List.set_cons_zero, List.set_cons_succ]
  refine wpAnyH_take (i := 26) (v := ?v47) (by simp only [List.getElem?_toArray, List.getElem?_cons_succ, List.getElem?_cons_zero]; rfl) (by kernel_rfl) (by kernel_rfl) (by kernel_rfl) (by exact fun _ _ _ h => h) (Or.inl ⟨by rfl, ?hy47⟩) (by assumption) ?rest47
  case hy47 => intro w hSw; (try dsimp only at hSw); go_simp; try (with_reducible rfl)
  case rest47 =>
  try simp only [Act.put, List.setIfInBounds_toArray, List.set_cons_zero, List.set_cons_succ]
  refine wpAnyH_done (by kernel_rfl) ?_ _
  go_wp2
  go_ret
  exact ⟨rfl, HF.out.kept.trans (((Kept.refl _ _).drew).trans gMin)⟩
set_option maxRecDepth 100000 in
set_option maxHeartbeats 1000000 in
theorem nb_000 (w : World) (vp : Value) (p : Ps) (hp : SlP w vp p) (lp : p.length ≤ 8796093021952) (HKp : Hid (keyedB p = true)) (HOK : Hid (KeysOk p)) (x : Int) (HA : Hid (Abt x (treeP p) (none) (none) (none)))  :
    Calls Try.prog 9 #[vp, .int .i32 x] w fun e w' => e = .returned (.bool true) ∧ Kept Non w w' := by
  have G0 := hid0 (And.intro (Kept.refl Non w) hp)
  clear hp
  go_enter Try.func9, Try.ntmps9
  go_wp2_with fail
  refine (keyed_any _ _ p G0.out.2 (by omega)).mono ?_
  rintro e W1 ⟨rfl, g⟩
  have G1 := hid0 (And.intro (G0.out.1.trans g) (G0.out.2.ext g))
  clear g G0
  rw [HKp.out]
  go_wp2_with fail
  refine (Find_any _ _ p x G1.out.2 (by omega) HOK.out).mono ?_
  rintro e W2 ⟨rfl, g⟩
  have G2 := hid0 (And.intro (G1.out.1.trans g) (G1.out.2.ext g))
  clear g G1
  rw [HA.out.here]
  rw [show fdAt x _ = (x, 0, false) from rfl]
  simp only [fv]
  go_wp2_with fail
  refine (Glb_any _ _ p x G2.out.2 (by omega) HOK.out).mono ?_
  rintro e W3 ⟨rfl, g⟩
  have G3 := hid0 (And.intro (G2.out.1.trans g) (G2.out.2.ext g))
  clear g G2
  rw [HA.out.low]
  rw [show fdOf _ = (-2147483648, 0, false) from rfl]
  simp only [fv]
  go_wp2_with fail
  refine (Lub_any _ _ p x G3.out.2 (by omega) HOK.out).mono ?_
  rintro e W4 ⟨rfl, g⟩
  have G4 := hid0 (And.intro (G3.out.1.trans g) (G3.out.2.ext g))
  clear g G3
  rw [HA.out.high]
  rw [show fdOf _ = (-2147483648, 0, false) from rfl]
  simp only [fv]
  go_wp2_with fail
  refine (GlbEq_any _ _ p x (G4.out.2.ext ((((Kept.refl _ _).alloc _).alloc _).alloc _)) (by omega) HOK.out).mono ?_
  rintro e W5 ⟨rfl, g⟩
  have G5 := hid0 (And.intro ((G4.out.1.trans ((((Kept.refl _ _).alloc _).alloc _).alloc _)).trans g) (And.intro ((G4.out.2.ext ((((Kept.refl _ _).alloc _).alloc _).alloc _)).ext g) (And.intro ((fd3 (f := (x, 0, false)) (g := (-2147483648, 0, false)) (h := (-2147483648, 0, false)) g).1) (And.intro ((fd3 (f := (x, 0, false)) (g := (-2147483648, 0, false)) (h := (-2147483648, 0, false)) g).2.1) ((fd3 (f := (x, 0, false)) (g := (-2147483648, 0, false)) (h := (-2147483648, 0, false)) g).2.2)))))
  clear g G4
  rw [HA.out.below]
  rw [show fdOf _ = (-2147483648, 0, false) from rfl]
  simp only [fv]
  go_wp2_with fail
  refine (LubEq_any _ _ p x G5.out.2.1 (by omega) HOK.out).mono ?_
  rintro e W6 ⟨rfl, g⟩
  have G6 := hid0 (And.intro (G5.out.1.trans g) (And.intro (G5.out.2.1.ext g) (And.intro (G5.out.2.2.1.ext g) (And.intro (G5.out.2.2.2.1.ext g) (G5.out.2.2.2.2.ext g)))))
  clear g G5
  rw [HA.out.above]
  rw [show fdOf _ = (-2147483648, 0, false) from rfl]
  simp only [fv]
  have h2 := fd_has G6.out.2.2.1
  go_wp2_with fail
  refine wp_gen (fun W => Five w vp p (W4.heap.size) (W6.heap.size) (x, 0, false) (-2147483648, 0, false) (-2147483648, 0, false) (-2147483648, 0, false) (-2147483648, 0, false) W) ⟨G6.out.2.2.1.ext (((Kept.refl _ _).alloc _).alloc _), G6.out.2.2.2.1.ext (((Kept.refl _ _).alloc _).alloc _), G6.out.2.2.2.2.ext (((Kept.refl _ _).alloc _).alloc _), (fd2 (f := (-2147483648, 0, false)) (g := (-2147483648, 0, false))).1, (fd2 (f := (-2147483648, 0, false)) (g := (-2147483648, 0, false))).2, (G6.out.1.alloc _).alloc _, G6.out.2.1.ext (((Kept.refl _ _).alloc _).alloc _)⟩ ?_
  rintro W hF
  have HF := hid0 hF
  obtain ⟨r0, r1, r2, r3, r4, r5, r6, r7, r8, r9, r10, r11, r12, r13, r14, rk⟩ := hF.cells (Kept.refl _ _)
  obtain ⟨B, hB⟩ : ∃ B, B = W4.heap.size := ⟨_, rfl⟩
  obtain ⟨C, hC⟩ : ∃ C, C = W6.heap.size := ⟨_, rfl⟩
  rw [← hB] at HF r0 r1 r2 r3 r4 r5 r6 r7 r8 ⊢
  rw [← hC] at HF r9 r10 r11 r12 r13 r14 ⊢
  clear hF h2 hB hC G6
  go_quiet (fail)
  go_wp2_with fail
  refine wp_gen (fun W => Five w vp p B C (x, 0, false) (-2147483648, 0, false) (-2147483648, 0, false) (-2147483648, 0, false) (-2147483648, 0, false) W) (HF.out.ext ((Kept.refl _ _).drewN _)) ?_
  clear r0 r1 r2 r3 r4 r5 r6 r7 r8 r9 r10 r11 r12 r13 r14 rk HF
  rintro V hF
  have HF := hid0 hF
  obtain ⟨r0, r1, r2, r3, r4, r5, r6, r7, r8, r9, r10, r11, r12, r13, r14, rk⟩ := hF.cells (Kept.refl _ _)
  clear hF
  go_region_held3 (fun W' => W'.cell? ⟨B, 0, none⟩ = some (.int .i32 (x)) ∧ W'.cell? ⟨B, 1, none⟩ = some (.int .i64 (0)) ∧ W'.cell? ⟨B, 2, none⟩ = some (.bool (false)) ∧ W'.cell? ⟨B + 1, 0, none⟩ = some (.int .i32 (-2147483648)) ∧ W'.cell? ⟨B + 1, 1, none⟩ = some (.int .i64 (0)) ∧ W'.cell? ⟨B + 1, 2, none⟩ = some (.bool (false)) ∧ W'.cell? ⟨B + 1 + 1, 0, none⟩ = some (.int .i32 (-2147483648)) ∧ W'.cell? ⟨B + 1 + 1, 1, none⟩ = some (.int .i64 (0)) ∧ W'.cell? ⟨B + 1 + 1, 2, none⟩ = some (.bool (false)) ∧ W'.cell? ⟨C, 0, none⟩ = some (.int .i32 (-2147483648)) ∧ W'.cell? ⟨C, 1, none⟩ = some (.int .i64 (0)) ∧ W'.cell? ⟨C, 2, none⟩ = some (.bool (false)) ∧ W'.cell? ⟨C + 1, 0, none⟩ = some (.int .i32 (-2147483648)) ∧ W'.cell? ⟨C + 1, 1, none⟩ = some (.int .i64 (0)) ∧ W'.cell? ⟨C + 1, 2, none⟩ = some (.bool (false)) ∧ Kept Non V W')
    (first | exact HF.out.cells (Kept.refl _ _).drew | (go_split_ands; exact HF.out.cells ((by assumption : Kept Non V _).trans (by assumption))))
    (first | (go_at_call 36; go_split_ands; refine (Min_any _ _ p  (HF.out.sl.ext (by assumption)) (by omega) HOK.out).mono ?_; rintro e WMin ⟨rfl, gMin⟩; rw [HA.out.least rfl rfl]; rw [show fdOf _ = (-2147483648, 0, false) from rfl]; simp only [fv]) | (go_at_call 37; go_split_ands; refine (Max_any _ _ p  (HF.out.sl.ext (by assumption)) (by omega) HOK.out).mono ?_; rintro e WMax ⟨rfl, gMax⟩; rw [HA.out.most rfl rfl]; rw [show fdOf _ = (-2147483648, 0, false) from rfl]; simp only [fv]))
  go_wp2
  go_ret
  go_split_ands
  exact ⟨rfl, HF.out.kept.trans (by assumption)⟩
set_option maxRecDepth 100000 in
set_option maxHeartbeats 1000000 in
theorem FnNeighbours_walk (w : World) (vp : Value) (p : Ps) (hp : SlP w vp p) (lp : p.length ≤ 8796093021952) (wp : KeysW p) (_dp : DataR p) (x : Int) (_rx : -2147483648 ≤ x ∧ x ≤ 2147483647) :
    Calls Try.prog 9 #[vp, .int .i32 x] w fun e w' => e = .returned (.bool true) ∧ Kept Non w w' := by
  cases hkp : keyedB p with
  | false =>
    have HKp := hid0 hkp
    have G0 := hid0 (And.intro (Kept.refl Non w) hp)
    clear hkp hp
    go_enter Try.func9, Try.ntmps9
    go_wp2_with fail
    refine (keyed_any _ _ p G0.out.2 (by omega)).mono ?_
    rintro e W1 ⟨rfl, g⟩
    have G1 := hid0 (And.intro (G0.out.1.trans g) (G0.out.2.ext g))
    clear g G0
    rw [HKp.out]
    go_wp2
    go_ret
    exact ⟨rfl, G1.out.1⟩
  | true =>
    have hok := wp.ok hkp
    obtain ⟨M, L, H, hA⟩ := abt x (up_treeP p)
    have hlow : ∀ a ∈ treeP p, (a.1 != -2147483648) = true := fun a ha => by
      have h := treeP_ok hok p.length
      rw [List.take_length] at h
      have := h.rng a ha
      simp; omega
    cases M with
    | none =>
      cases L with
      | none =>
        cases H with
        | none => exact nb_000 w vp p hp lp hkp hok x hA
        | some g =>
          obtain ⟨hk, hd⟩ := g
          exact nb_001 w vp p hp lp hkp hok x hk hd hA
      | some l =>
        have hl := hlow l (hA.mem l rfl)
        obtain ⟨lk, ld⟩ := l
        cases H with
        | none => exact nb_010 w vp p hp lp hkp hok x lk ld hA hl
        | some g =>
          obtain ⟨hk, hd⟩ := g
          exact nb_011 w vp p hp lp hkp hok x lk ld hk hd hA hl
    | some m =>
      obtain ⟨x', d⟩ := m
      have hx : x' = x := hA.key _ rfl
      subst hx
      cases L with
      | none =>
        cases H with
        | none => exact nb_100 w vp p hp lp hkp hok _ d hA
        | some g =>
          obtain ⟨hk, hd⟩ := g
          exact nb_101 w vp p hp lp hkp hok _ d hk hd hA
      | some l =>
        obtain ⟨lk, ld⟩ := l
        cases H with
        | none => exact nb_110 w vp p hp lp hkp hok _ d lk ld hA
        | some g =>
          obtain ⟨hk, hd⟩ := g
          exact nb_111 w vp p hp lp hkp hok _ d lk ld hk hd hA

end Go.Proofs.Ytlmbgkgnbebkiaa
