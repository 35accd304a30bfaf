/- The plain laws of unions, intersections and differences. -/
import Derived.Test.YtehegllgaiehfaaSpec
namespace Go.Proofs.Ytehegllgaiehfaa
open Go.RowKit

def mL : Mx := ⟨false, 1, 0, 0, 0, 0⟩
def mR : Mx := ⟨false, 0, 1, 0, 0, 0⟩
def mS : Mx := ⟨false, 1, 1, 0, 0, 0⟩
def mN : Mx := ⟨true, 0, 0, 0, 0, 0⟩
def InR (d : Int) : Prop := -9223372036854775808 ≤ d ∧ d ≤ 9223372036854775807
theorem wrap_in {n : Int} (h : InR n) : wrap64 n = n := by
  obtain ⟨h1, h2⟩ := h
  unfold wrap64; omega
theorem mix_L {d : Int} (e : Int) (h : InR d) : mixV mL d e = some d := by
  have h0 : InR 0 := by unfold InR; omega
  simp [mixV, mixN, mL, wrap_in h, wrap_in h0]
theorem mix_R (d : Int) {e : Int} (h : InR e) : mixV mR d e = some e := by
  have h0 : InR 0 := by unfold InR; omega
  simp [mixV, mixN, mR, wrap_in h, wrap_in h0]
theorem mix_S {d e : Int} (hd : InR d) (he : InR e) (h : InR (d + e)) : mixV mS d e = some (d + e) := by
  simp [mixV, mixN, mS, wrap_in hd, wrap_in he, wrap_in h]
theorem op_L : opOf mL = some (mixV mL) := rfl
theorem op_R : opOf mR = some (mixV mR) := rfl
theorem op_S : opOf mS = some (mixV mS) := rfl
theorem op_N : opOf mN = none := rfl

/-- the data are numbers of 64 bits -/
def Rg (xs : Ps) : Prop := ∀ k d, look k xs = some d → InR d
theorem treeP_mem {a : Int × Int} {ps : Ps} (h : a ∈ treeP ps) : a ∈ ps := by
  suffices hs : ∀ (ps s : Ps), a ∈ ps.foldl (fun s p => put p.1 p.2 s) s → a ∈ ps ∨ a ∈ s by
    rcases hs ps [] h with h | h
    · exact h
    · cases h
  intro ps
  induction ps with
  | nil => exact fun s h => .inr h
  | cons b ps ih =>
    intro s h
    rcases ih _ h with h | h
    · exact .inl (List.mem_cons_of_mem _ h)
    · rcases put_mem h with rfl | h
      · exact .inl (List.mem_cons_self ..)
      · exact .inr h
theorem Rg.tree {ps : Ps} (h : DataR ps) : Rg (treeP ps) := fun _ _ hk => h _ (treeP_mem (look_mem hk))
theorem look_uR {xs ys : Ps} (hx : Up xs) (hy : Up ys) (ry : Rg ys) (k : Int) : look k (unionI (opOf mR) xs ys) = (look k ys).or (look k xs) := by
  rw [op_R, look_unionI hx hy]
  cases h1 : look k xs <;> cases h2 : look k ys <;> simp
  rw [both_some (fun h => by rw [mix_R _ (ry k _ h2)] at h; exact (Option.some.inj h).symm), mix_R _ (ry k _ h2)]
theorem look_iR {xs ys : Ps} (hx : Up xs) (hy : Up ys) (ry : Rg ys) (k : Int) : look k (interI (opOf mR) xs ys) = if (look k xs).isSome then look k ys else none := by
  rw [op_R, look_interI hx hy]
  cases h1 : look k xs <;> cases h2 : look k ys <;> simp
  rw [both_some (fun h => by rw [mix_R _ (ry k _ h2)] at h; exact (Option.some.inj h).symm), mix_R _ (ry k _ h2)]
theorem look_dN {xs : Ps} (hx : Up xs) (ys : Ps) (k : Int) : look k (diffI (opOf mN) xs ys) = if (look k ys).isSome then none else look k xs := by
  rw [op_N, look_diffI hx]
  cases h1 : look k xs <;> cases h2 : look k ys <;> simp
theorem both_L {d : Int} (e : Int) (h : InR d) : both (some (mixV mL)) true d e = some d := by rw [both_true, mix_L e h]
theorem look_uL {xs ys : Ps} (hx : Up xs) (hy : Up ys) (rx : Rg xs) (hl : ys.length ≤ xs.length) (k : Int) : look k (unionI (opOf mL) xs ys) = (look k xs).or (look k ys) := by
  rw [op_L, look_unionI hx hy, decide_eq_true hl]
  cases h1 : look k xs <;> cases h2 : look k ys <;> simp
  exact both_L _ (rx k _ h1)
theorem look_iL {xs ys : Ps} (hx : Up xs) (hy : Up ys) (rx : Rg xs) (hl : xs.length ≤ ys.length) (k : Int) : look k (interI (opOf mL) xs ys) = if (look k ys).isSome then look k xs else none := by
  rw [op_L, look_interI hx hy, decide_eq_true hl]
  cases h1 : look k xs <;> cases h2 : look k ys <;> simp
  exact both_L _ (rx k _ h1)
theorem Rg.iR {xs ys : Ps} (hx : Up xs) (hy : Up ys) (ry : Rg ys) : Rg (interI (opOf mR) xs ys) := fun k d h => by
  rw [look_iR hx hy ry] at h
  split at h
  · exact ry k d h
  · cases h
theorem Rg.dN {xs : Ps} (hx : Up xs) (rx : Rg xs) (ys : Ps) : Rg (diffI (opOf mN) xs ys) := fun k d h => by
  rw [look_dN hx] at h
  split at h
  · cases h
  · exact rx k d h

/-- a sorted list whose keys another one has is not longer -/
theorem keys_le : ∀ {ys xs : Ps}, Up ys → Up xs → (∀ k, (look k xs).isSome = true → (look k ys).isSome = true) → xs.length ≤ ys.length
  | [], xs, _, _, h => by
    cases xs with
    | nil => simp
    | cons a xs => have := h a.1 (by simp [look]); simp [look] at this
  | b :: ys, [], _, _, _ => by simp
  | b :: ys, a :: xs, hy, hx, h => by
    obtain ⟨p1, q1⟩ := List.pairwise_cons.1 hx
    obtain ⟨p2, q2⟩ := List.pairwise_cons.1 hy
    by_cases e : a.1 = b.1
    · have := keys_le (ys := ys) (xs := xs) q2 q1 fun k hk => by
        have h1 := h k
        by_cases e2 : a.1 = k
        · subst e2
          rw [look_none_of_lt (fun c hc => p1 c hc)] at hk; cases hk
        · rw [look, if_neg e2, look, if_neg (by omega)] at h1
          exact h1 hk
      simp only [List.length_cons]; omega
    · have h0 := h a.1 (by simp [look])
      rw [look, if_neg (fun e' => e e'.symm)] at h0
      have hlt : b.1 < a.1 := by
        cases hl : look a.1 ys with
        | none => rw [hl] at h0; cases h0
        | some d => exact p2 (a.1, d) (look_mem hl)
      have := keys_le (ys := ys) (xs := a :: xs) q2 hx fun k hk => by
        have h1 := h k hk
        rw [look] at h1
        by_cases e2 : b.1 = k
        · subst e2
          rw [look_none_of_lt (fun c hc => by rcases List.mem_cons.1 hc with rfl | hc; exact hlt; have := p1 c hc; omega)] at hk; cases hk
        · rwa [if_neg e2] at h1
      simp only [List.length_cons] at this ⊢; omega

theorem absorbed_u {xs ys : Ps} (hx : Up xs) (hy : Up ys) (rx : Rg xs) (ry : Rg ys) : unionI (opOf mL) xs (interI (opOf mR) xs ys) = xs := by
  have hi := hx.interI hy (opOf mR)
  have hl : (interI (opOf mR) xs ys).length ≤ xs.length := keys_le hx hi fun k hk => by
    rw [look_iR hx hy ry] at hk
    cases h1 : look k xs <;> simp [h1] at hk ⊢
  refine (hx.unionI hi _).ext hx fun k => ?_
  rw [look_uL hx hi rx hl, look_iR hx hy ry]
  cases look k xs <;> simp
theorem absorbed_i {xs ys : Ps} (hx : Up xs) (hy : Up ys) (rx : Rg xs) (ry : Rg ys) : interI (opOf mL) xs (unionI (opOf mR) xs ys) = xs := by
  have hi := hx.unionI hy (opOf mR)
  have hl : xs.length ≤ (unionI (opOf mR) xs ys).length := keys_le hi hx fun k hk => by
    rw [look_uR hx hy ry]
    cases h1 : look k xs <;> cases h2 : look k ys <;> simp [h1] at hk ⊢
  refine (hx.interI hi _).ext hx fun k => ?_
  rw [look_iL hx hi rx hl, look_uR hx hy ry]
  cases look k xs <;> cases look k ys <;> simp
theorem self_u {xs : Ps} (hx : Up xs) : unionI (opOf mN) xs xs = xs := by
  refine (hx.unionI hx _).ext hx fun k => ?_
  rw [look_unionI hx hx, op_N]
  cases look k xs <;> simp [both, said]
theorem self_i {xs : Ps} (hx : Up xs) : interI (opOf mN) xs xs = xs := by
  refine (hx.interI hx _).ext hx fun k => ?_
  rw [look_interI hx hx, op_N]
  cases look k xs <;> simp [both, said]
theorem self_d {xs : Ps} (hx : Up xs) : diffI (opOf mN) xs xs = [] := by
  refine (hx.diffI _ _).ext Up.nil fun k => ?_
  rw [look_dN hx]
  cases look k xs <;> simp [look]

theorem distr_1 {xs ys zs : Ps} (hx : Up xs) (hy : Up ys) (hz : Up zs) (rx : Rg xs) (rz : Rg zs) :
    interI (opOf mR) (unionI (opOf mR) ys zs) xs = unionI (opOf mR) (interI (opOf mR) ys xs) (interI (opOf mR) zs xs) := by
  have h1 := hy.unionI hz (opOf mR)
  have h2 := hy.interI hx (opOf mR)
  have h3 := hz.interI hx (opOf mR)
  refine (h1.interI hx _).ext (h2.unionI h3 _) fun k => ?_
  rw [look_iR h1 hx rx, look_uR hy hz rz, look_uR h2 h3 (Rg.iR hz hx rx), look_iR hy hx rx, look_iR hz hx rx]
  cases look k xs <;> cases look k ys <;> cases look k zs <;> simp
theorem distr_2 {xs ys zs : Ps} (hx : Up xs) (hy : Up ys) (hz : Up zs) (rz : Rg zs) :
    diffI (opOf mN) xs (unionI (opOf mR) ys zs) = diffI (opOf mN) (diffI (opOf mN) xs ys) zs := by
  refine (hx.diffI _ _).ext ((hx.diffI _ _).diffI _ _) fun k => ?_
  rw [look_dN hx, look_dN (hx.diffI _ _), look_dN hx, look_uR hy hz rz]
  cases look k xs <;> cases look k ys <;> cases look k zs <;> simp
theorem distr_3 {xs ys zs : Ps} (hx : Up xs) (hy : Up ys) (hz : Up zs) (rx : Rg xs) (rz : Rg zs) :
    diffI (opOf mN) xs (unionI (opOf mR) ys zs) = interI (opOf mR) (diffI (opOf mN) xs ys) (diffI (opOf mN) xs zs) := by
  refine (hx.diffI _ _).ext ((hx.diffI _ _).interI (hx.diffI _ _) _) fun k => ?_
  rw [look_dN hx, look_iR (hx.diffI _ _) (hx.diffI _ _) (Rg.dN hx rx zs), look_dN hx, look_dN hx, look_uR hy hz rz]
  cases look k xs <;> cases look k ys <;> cases look k zs <;> simp
theorem union_longer {ys zs : Ps} (hy : Up ys) (hz : Up zs) (rz : Rg zs) : ys.length ≤ (unionI (opOf mR) ys zs).length := keys_le (hy.unionI hz _) hy fun k hk => by
  rw [look_uR hy hz rz]
  cases h1 : look k ys <;> cases h2 : look k zs <;> simp [h1] at hk ⊢

theorem parts_1 {xs ys : Ps} (hx : Up xs) (hy : Up ys) (rx : Rg xs) (o : Option Fun2) : unionI o (diffI (opOf mN) xs ys) (interI (opOf mR) ys xs) = xs := by
  refine ((hx.diffI _ _).unionI (hy.interI hx _) _).ext hx fun k => ?_
  rw [look_unionI (hx.diffI _ _) (hy.interI hx _), look_dN hx, look_iR hy hx rx]
  cases look k xs <;> cases look k ys <;> simp
theorem parts_2 {xs ys : Ps} (hx : Up xs) (hy : Up ys) (rx : Rg xs) (o : Option Fun2) : unionI o (interI (opOf mR) ys xs) (diffI (opOf mN) xs ys) = xs := by
  refine ((hy.interI hx _).unionI (hx.diffI _ _) _).ext hx fun k => ?_
  rw [look_unionI (hy.interI hx _) (hx.diffI _ _), look_dN hx, look_iR hy hx rx]
  cases look k xs <;> cases look k ys <;> simp
theorem parts_len {xs ys : Ps} (hx : Up xs) (hy : Up ys) (rx : Rg xs) : (diffI (opOf mN) xs ys).length + (interI (opOf mR) ys xs).length = xs.length := by
  have h1 : diffI (opOf mN) xs ys = xs.filter fun a => (look a.1 ys).isNone := (hx.diffI _ _).ext (List.Pairwise.filter _ hx) fun k => by
    rw [look_dN hx, look_filter (q := fun a => (look a ys).isNone)]
    cases look k ys <;> simp
  have h2 : interI (opOf mR) ys xs = xs.filter fun a => !(look a.1 ys).isNone := (hy.interI hx _).ext (List.Pairwise.filter _ hx) fun k => by
    rw [look_iR hy hx rx, look_filter (q := fun a => !(look a ys).isNone)]
    cases look k ys <;> simp
  rw [h1, h2, ← List.countP_eq_length_filter, ← List.countP_eq_length_filter, List.length_eq_countP_add_countP (p := fun a => (look a.1 ys).isNone)]
  congr 2
  funext a
  cases look a.1 ys <;> simp

/-- the function the other way round -/
def swp (m : Mx) : Mx := ⟨m.no, m.b, m.a, m.c, m.md, m.rs⟩
theorem mix_swp (m : Mx) (d e : Int) : mixV (swp m) e d = mixV m d e := by
  have hn : mixN (swp m) e d = mixN m d e := by
    simp only [mixN, swp]
    rw [Int.add_comm (wrap64 (m.b * e))]
  unfold mixV
  rw [hn]
  rfl
theorem swap_u {xs ys : Ps} (hx : Up xs) (hy : Up ys) {m : Mx} (h1 : Fresh (mixV m) xs ys) (h2 : Fresh (mixV (swp m)) ys xs) : unionI (some (mixV m)) xs ys = unionI (some (mixV (swp m))) ys xs := by
  rw [unionI_some hx hy h1, unionI_some hy hx h2]
  have u1 : Up (unionS (mixV m) xs ys) := up_treeP _
  have u2 : Up (unionS (mixV (swp m)) ys xs) := up_treeP _
  refine u1.ext u2 fun k => ?_
  rw [look_unionS hx hy, look_unionS hy hx]
  cases look k xs <;> cases look k ys <;> simp
  rw [mix_swp]
theorem swap_i {xs ys : Ps} (hx : Up xs) (hy : Up ys) {m : Mx} (h1 : Fresh (mixV m) xs ys) (h2 : Fresh (mixV (swp m)) ys xs) : interI (some (mixV m)) xs ys = interI (some (mixV (swp m))) ys xs := by
  rw [interI_some hx hy h1, interI_some hy hx h2]
  refine (hx.interS _ _).ext (hy.interS _ _) fun k => ?_
  rw [look_interS hx, look_interS hy]
  cases look k xs <;> cases look k ys <;> simp
  rw [mix_swp]
theorem put_new {x d : Int} {s : Ps} (h : Up s) (hn : look x s = none) : (put x d s).length = s.length + 1 := by
  rw [put_length h, find_look, hn]; rfl
theorem putAll_len : ∀ {ps s : Ps}, Up s → Up ps → (∀ a ∈ ps, look a.1 s = none) → (putAll ps s).length = s.length + ps.length
  | [], s, _, _, _ => by simp [putAll]
  | a :: ps, s, hs, hp, h => by
    obtain ⟨p1, q1⟩ := List.pairwise_cons.1 hp
    show (putAll ps (put a.1 a.2 s)).length = _
    rw [putAll_len (hs.put a.1 a.2) q1 (fun c hc => by
      rw [look_put, if_neg (by have := p1 c hc; omega)]
      exact h c (List.mem_cons_of_mem _ hc)), put_new hs (h a (List.mem_cons_self ..))]
    simp only [List.length_cons]; omega
theorem look_putAll (k : Int) (ps s : Ps) : look k (putAll ps s) = (look k (treeP ps)).or (look k s) := by
  rw [putAll, foldl_put_look, foldl_last, look_treeP]
theorem common_len (xs ys : Ps) : xs.length = (xs.filter fun a => (look a.1 ys).isNone).length + (interS (mixV mL) xs ys).length := by
  have h2 : (interS (mixV mL) xs ys).length = (xs.filter fun a => !(look a.1 ys).isNone).length := by
    induction xs with
    | nil => rfl
    | cons a xs ih =>
      unfold interS at ih ⊢
      rw [fmap_cons]
      cases hl : look a.1 ys with
      | none => simp only [gSI, hl, Option.bind_none]; rw [ih, List.filter_cons_of_neg (by simp [hl])]
      | some e =>
        obtain ⟨n, hn⟩ : ∃ n, mixV mL a.2 e = some n := ⟨_, by simp [mixV, mL]; rfl⟩
        simp only [gSI, hl, Option.bind_some, hn]
        rw [List.filter_cons_of_pos (by simp [hl])]
        simp only [List.length_cons]
        rw [ih]
  rw [h2, ← List.countP_eq_length_filter, ← List.countP_eq_length_filter, List.length_eq_countP_add_countP (p := fun a => (look a.1 ys).isNone)]
  congr 2
  funext a
  cases look a.1 ys <;> simp
theorem common_sym {xs ys : Ps} (hx : Up xs) (hy : Up ys) : (interS (mixV mL) ys xs).length = (interS (mixV mL) xs ys).length := by
  have some_L : ∀ d e, ∃ n, mixV mL d e = some n := fun d e => ⟨_, by simp [mixV, mL]; rfl⟩
  apply Nat.le_antisymm
  · refine keys_le (hx.interS _ _) (hy.interS _ _) fun k hk => ?_
    rw [look_interS hy] at hk
    rw [look_interS hx]
    cases h1 : look k xs <;> cases h2 : look k ys <;> simp [h1, h2] at hk ⊢
    obtain ⟨n, hn⟩ := some_L _ _
    rw [hn]; rfl
  · refine keys_le (hy.interS _ _) (hx.interS _ _) fun k hk => ?_
    rw [look_interS hx] at hk
    rw [look_interS hy]
    cases h1 : look k xs <;> cases h2 : look k ys <;> simp [h1, h2] at hk ⊢
    obtain ⟨n, hn⟩ := some_L _ _
    rw [hn]; rfl
theorem union_len {xs ys : Ps} (hx : Up xs) (hy : Up ys) (op : Fun2) : (unionS op xs ys).length + 2 * (interS (mixV mL) xs ys).length = xs.length + ys.length + (interS op xs ys).length := by
  have fx : Up (xs.filter fun a => (look a.1 ys).isNone) := List.Pairwise.filter _ hx
  have fy : Up (ys.filter fun a => (look a.1 xs).isNone) := List.Pairwise.filter _ hy
  have e1 : putAll (xs.filter fun a => (look a.1 ys).isNone) [] = xs.filter fun a => (look a.1 ys).isNone := treeP_up fx
  have h1 := common_len xs ys
  have h2 := common_len ys xs
  have h3 := common_sym hx hy
  rw [unionS_putAll, e1, putAll_len (putAll_up fx) (hx.interS _ _), putAll_len fx fy]
  · omega
  · intro a ha
    have ha2 : (look a.1 xs).isNone = true := by simpa using (List.mem_filter.1 ha).2
    rw [look_filter (q := fun a => (look a ys).isNone)]
    cases hl : look a.1 xs with
    | none => simp
    | some d => rw [hl] at ha2; cases ha2
  · intro a ha
    obtain ⟨b, hb, e, hg⟩ := fmap_key ha
    have hbx := mem_look hx hb
    rw [e] at hbx
    rw [look_putAll, treeP_up fy, look_filter (q := fun a => (look a xs).isNone), look_filter (q := fun a => (look a ys).isNone), hbx]
    rw [e] at hg
    cases hl : look a.1 ys with
    | none => rw [gSI, hl] at hg; cases hg
    | some d => simp

theorem inserts {p q : Ps} (rq : Rg (treeP q)) : unionI (opOf mR) (treeP p) (treeP q) = treeP (p ++ q) :=
  ((up_treeP p).unionI (up_treeP q) _).ext (up_treeP _) fun k => by
    rw [look_uR (up_treeP p) (up_treeP q) rq, look_treeP_append]

/-- positive data, not too great for sums -/
def Pos (b : Int) (xs : Ps) : Prop := ∀ k d, look k xs = some d → 1 ≤ d ∧ d ≤ b
theorem look_uS {xs ys : Ps} (hx : Up xs) (hy : Up ys) {a b : Int} (px : Pos a xs) (py : Pos b ys) (hab : a + b ≤ 9223372036854775807) (k : Int) : look k (unionI (opOf mS) xs ys) = match look k xs, look k ys with
    | none, o => o
    | some d, none => some d
    | some d, some e => some (d + e) := by
  rw [op_S, look_unionI hx hy]
  cases h1 : look k xs <;> cases h2 : look k ys <;> simp only
  rename_i d e
  have r1 := px k d h1
  have r2 := py k e h2
  have hm : mixV mS d e = some (d + e) := mix_S ⟨by omega, by omega⟩ ⟨by omega, by omega⟩ ⟨by omega, by omega⟩
  rw [both_some (fun h => by rw [hm] at h; have := Option.some.inj h; omega), hm]
theorem look_iS {xs ys : Ps} (hx : Up xs) (hy : Up ys) {a b : Int} (px : Pos a xs) (py : Pos b ys) (hab : a + b ≤ 9223372036854775807) (k : Int) : look k (interI (opOf mS) xs ys) = match look k xs, look k ys with
    | some d, some e => some (d + e)
    | _, _ => none := by
  rw [op_S, look_interI hx hy]
  cases h1 : look k xs <;> cases h2 : look k ys <;> simp only
  rename_i d e
  have r1 := px k d h1
  have r2 := py k e h2
  have hm : mixV mS d e = some (d + e) := mix_S ⟨by omega, by omega⟩ ⟨by omega, by omega⟩ ⟨by omega, by omega⟩
  rw [both_some (fun h => by rw [hm] at h; have := Option.some.inj h; omega), hm]
theorem Pos.uS {xs ys : Ps} (hx : Up xs) (hy : Up ys) {a b : Int} (px : Pos a xs) (py : Pos b ys) (ha : 0 ≤ a) (hb : 0 ≤ b) (hab : a + b ≤ 9223372036854775807) : Pos (a + b) (unionI (opOf mS) xs ys) := fun k d h => by
  rw [look_uS hx hy px py hab] at h
  cases h1 : look k xs <;> cases h2 : look k ys <;> simp [h1, h2] at h
  · have := py k _ h2; omega
  · have := px k _ h1; omega
  · have := px k _ h1; have := py k _ h2; omega
theorem Pos.iS {xs ys : Ps} (hx : Up xs) (hy : Up ys) {a b : Int} (px : Pos a xs) (py : Pos b ys) (hab : a + b ≤ 9223372036854775807) : Pos (a + b) (interI (opOf mS) xs ys) := fun k d h => by
  rw [look_iS hx hy px py hab] at h
  cases h1 : look k xs <;> cases h2 : look k ys <;> simp [h1, h2] at h
  have := px k _ h1; have := py k _ h2; omega
theorem assoc_u {xs ys zs : Ps} (hx : Up xs) (hy : Up ys) (hz : Up zs) {b : Int} (hb : 0 ≤ b) (hbb : b + b + b ≤ 9223372036854775807) (px : Pos b xs) (py : Pos b ys) (pz : Pos b zs) :
    unionI (opOf mS) (unionI (opOf mS) xs ys) zs = unionI (opOf mS) xs (unionI (opOf mS) ys zs) := by
  have h1 := hx.unionI hy (opOf mS)
  have h2 := hy.unionI hz (opOf mS)
  refine (h1.unionI hz _).ext (hx.unionI h2 _) fun k => ?_
  rw [look_uS h1 hz (Pos.uS hx hy px py hb hb (by omega)) pz (by omega), look_uS hx h2 px (Pos.uS hy hz py pz hb hb (by omega)) (by omega), look_uS hx hy px py (by omega), look_uS hy hz py pz (by omega)]
  cases look k xs <;> cases look k ys <;> cases look k zs <;> simp
  omega
theorem assoc_i {xs ys zs : Ps} (hx : Up xs) (hy : Up ys) (hz : Up zs) {b : Int} (hb : 0 ≤ b) (hbb : b + b + b ≤ 9223372036854775807) (px : Pos b xs) (py : Pos b ys) (pz : Pos b zs) :
    interI (opOf mS) (interI (opOf mS) xs ys) zs = interI (opOf mS) xs (interI (opOf mS) ys zs) := by
  have h1 := hx.interI hy (opOf mS)
  have h2 := hy.interI hz (opOf mS)
  refine (h1.interI hz _).ext (hx.interI h2 _) fun k => ?_
  rw [look_iS h1 hz (Pos.iS hx hy px py (by omega)) pz (by omega), look_iS hx h2 px (Pos.iS hy hz py pz (by omega)) (by omega), look_iS hx hy px py (by omega), look_iS hy hz py pz (by omega)]
  cases look k xs <;> cases look k ys <;> cases look k zs <;> simp
  omega
theorem assoc_len {xs ys zs : Ps} (hx : Up xs) (hy : Up ys) (hz : Up zs) {b : Int} (hb : 0 ≤ b) (hbb : b + b + b ≤ 9223372036854775807) (px : Pos b xs) (py : Pos b ys) (pz : Pos b zs) :
    xs.length ≤ (unionI (opOf mS) (unionI (opOf mS) xs ys) zs).length := by
  have h1 := hx.unionI hy (opOf mS)
  refine keys_le (h1.unionI hz _) hx fun k hk => ?_
  rw [look_uS h1 hz (Pos.uS hx hy px py hb hb (by omega)) pz (by omega), look_uS hx hy px py (by omega)]
  cases g1 : look k xs <;> cases g2 : look k ys <;> cases g3 : look k zs <;> simp [g1] at hk ⊢

theorem uN_ge {xs ys : Ps} (hx : Up xs) (hy : Up ys) (hl : ys.length ≤ xs.length) (rx : Rg xs) : unionI (opOf mN) xs ys = unionS (mixV mL) xs ys := by
  have u1 : Up (unionS (mixV mL) xs ys) := up_treeP _
  refine (hx.unionI hy _).ext u1 fun k => ?_
  rw [op_N, look_unionI hx hy, look_unionS hx hy, decide_eq_true hl]
  cases h1 : look k xs <;> cases h2 : look k ys <;> simp [both, said]
  rw [mix_L _ (rx k _ h1)]
theorem uN_lt {xs ys : Ps} (hx : Up xs) (hy : Up ys) (hl : ¬ ys.length ≤ xs.length) (ry : Rg ys) : unionI (opOf mN) xs ys = unionS (mixV mR) xs ys := by
  have u1 : Up (unionS (mixV mR) xs ys) := up_treeP _
  refine (hx.unionI hy _).ext u1 fun k => ?_
  rw [op_N, look_unionI hx hy, look_unionS hx hy, decide_eq_false hl]
  cases h1 : look k xs <;> cases h2 : look k ys <;> simp [both, said]
  rw [mix_R _ (ry k _ h2)]
theorem iN_le {xs ys : Ps} (hx : Up xs) (hy : Up ys) (hl : xs.length ≤ ys.length) (rx : Rg xs) : interI (opOf mN) xs ys = interS (mixV mL) xs ys := by
  refine (hx.interI hy _).ext (hx.interS _ _) fun k => ?_
  rw [op_N, look_interI hx hy, look_interS hx, decide_eq_true hl]
  cases h1 : look k xs <;> cases h2 : look k ys <;> simp [both, said]
  rw [mix_L _ (rx k _ h1)]
theorem iN_gt {xs ys : Ps} (hx : Up xs) (hy : Up ys) (hl : ¬ xs.length ≤ ys.length) (ry : Rg ys) : interI (opOf mN) xs ys = interS (mixV mR) xs ys := by
  refine (hx.interI hy _).ext (hx.interS _ _) fun k => ?_
  rw [op_N, look_interI hx hy, look_interS hx, decide_eq_false hl]
  cases h1 : look k xs <;> cases h2 : look k ys <;> simp [both, said]
  rw [mix_R _ (ry k _ h2)]
theorem inter_LR {xs ys : Ps} (hx : Up xs) (_hy : Up ys) : (interS (mixV mL) xs ys).length = (interS (mixV mR) xs ys).length := by
  have some_L : ∀ d e, ∃ n, mixV mL d e = some n := fun d e => ⟨_, by simp [mixV, mL]; rfl⟩
  have some_R : ∀ d e, ∃ n, mixV mR d e = some n := fun d e => ⟨_, by simp [mixV, mR]; rfl⟩
  apply Nat.le_antisymm
  · refine keys_le (hx.interS _ _) (hx.interS _ _) fun k hk => ?_
    rw [look_interS hx] at hk ⊢
    cases h1 : look k xs <;> cases h2 : look k ys <;> simp [h1, h2] at hk ⊢
    obtain ⟨n, hn⟩ := some_R _ _
    rw [hn]; rfl
  · refine keys_le (hx.interS _ _) (hx.interS _ _) fun k hk => ?_
    rw [look_interS hx] at hk ⊢
    cases h1 : look k xs <;> cases h2 : look k ys <;> simp [h1, h2] at hk ⊢
    obtain ⟨n, hn⟩ := some_L _ _
    rw [hn]; rfl
theorem union_LR {xs ys : Ps} (hx : Up xs) (hy : Up ys) : (unionS (mixV mL) xs ys).length = (unionS (mixV mR) xs ys).length := by
  have h1 := union_len hx hy (mixV mL)
  have h2 := union_len hx hy (mixV mR)
  have h3 := inter_LR hx hy
  omega
theorem treeP_len0 {ps : Ps} (h : KeysW ps) : (treeP ps).length ≤ 4294967296 := by
  have := treeP_len h ps.length
  rwa [List.take_length] at this
theorem treeP_w {ps : Ps} (h : KeysW ps) : KeysW (treeP ps) := fun a ha => h a (treeP_mem ha)
/-- the fields of a Mix are numbers of 64 bits -/
def MxR (_m : Mx) : Prop := True

end Go.Proofs.Ytehegllgaiehfaa
