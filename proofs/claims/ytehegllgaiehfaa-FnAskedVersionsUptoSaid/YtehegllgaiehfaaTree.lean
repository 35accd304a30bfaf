/- The methods of T that read, Copy and Insert: what they tell and do, of trees whose keys and data are a sorted list. -/
import Derived.Test.YtehegllgaiehfaaIns
namespace Go.Proofs.Ytehegllgaiehfaa
open Go.RowKit

/-- a pair as a node holds it -/
def en (a : Int × Int) : Int × Value := (a.1, .iface 3 (.int .i64 a.2))

/-- sorted pairs, no key of which is the one that stands for none -/
structure Ok (xs : List (Int × Int)) : Prop where
  srt : xs.Pairwise fun a b => a.1 < b.1
  rng : ∀ a ∈ xs, -2147483648 < a.1 ∧ a.1 ≤ 2147483647

theorem Ok.nil : Ok [] := ⟨List.Pairwise.nil, fun _ h => by cases h⟩

/-- so many numbers at most lie in a range, if they rise -/
theorem rising_length : ∀ (xs : List (Int × Int)) (lo hi : Int), xs.Pairwise (fun a b => a.1 < b.1) → (∀ a ∈ xs, lo ≤ a.1 ∧ a.1 ≤ hi) → lo ≤ hi + 1 → (xs.length : Int) ≤ hi - lo + 1
  | [], lo, hi, _, _, h => by simp; omega
  | a :: xs, lo, hi, hp, hr, _ => by
    obtain ⟨h1, h2⟩ := List.pairwise_cons.1 hp
    have ha := hr a (List.mem_cons_self ..)
    have := rising_length xs (a.1 + 1) hi h2 (fun c hc => ⟨by have := h1 c hc; omega, (hr c (List.mem_cons_of_mem _ hc)).2⟩) (by omega)
    simp only [List.length_cons]; omega
theorem Ok.length {xs : List (Int × Int)} (h : Ok xs) : (xs.length : Int) ≤ 4294967296 := by
  have := rising_length xs (-2147483648) 2147483647 h.srt (fun a ha => by have := h.rng a ha; omega) (by omega)
  omega

theorem Avl.size : ∀ {T : Tr} (n : Nat), Avl T → 2 * (n : Int) ≤ ht T → 2 ^ n ≤ tsize T + 1
  | .nil, n, _, h => by
    simp only [ht] at h
    obtain rfl : n = 0 := by omega
    simp [tsize]
  | .node _ _ a l r, 0, _, _ => by simp
  | .node b o a l r, n + 1, ha, h => by
    obtain ⟨a1, a2, a3, a4, a5⟩ := ha
    have h' : 2 * ((n + 1 : Nat) : Int) ≤ a.2.2 := h
    have hl := Avl.size (T := l) n a4 (by omega)
    have hr := Avl.size (T := r) n a5 (by omega)
    simp only [tsize]
    rw [Nat.pow_succ]
    omega

structure GoodT (w : World) (T : Tr) (xs : List (Int × Int)) : Prop where
  inn : In w T
  avl : Avl T
  lst : toL T = xs.map en
  ok : Ok xs

theorem GoodT.srt {w : World} {T : Tr} {xs : List (Int × Int)} (h : GoodT w T xs) : Srt (toL T) := by
  rw [h.lst]; unfold Srt
  rw [List.pairwise_map]
  exact h.ok.srt
theorem dataOk_of {T : Tr} (h : ∀ a ∈ toL T, (∃ t v, a.2 = .iface t v) ∨ a.2 = .nilIface) : DataOk T := by
  induction T with
  | nil => trivial
  | node b o a l r ihl ihr =>
    refine ⟨h (a.1, a.2.1) (by rw [toL_node]; simp), ihl (fun c hc => h c (by rw [toL_node]; exact List.mem_append_left _ hc)), ihr (fun c hc => h c (by rw [toL_node]; exact List.mem_append_right _ (List.mem_cons_of_mem _ hc)))⟩
theorem GoodT.dat {w : World} {T : Tr} {xs : List (Int × Int)} (h : GoodT w T xs) : DataOk T := dataOk_of fun a ha => by
  rw [h.lst] at ha
  obtain ⟨c, _, rfl⟩ := List.mem_map.1 ha
  exact .inl ⟨_, _, rfl⟩
theorem GoodT.size {w : World} {T : Tr} {xs : List (Int × Int)} (h : GoodT w T xs) : tsize T = xs.length := by
  rw [← length_toL, h.lst, List.length_map]
theorem GoodT.bnd {w : World} {T : Tr} {xs : List (Int × Int)} (h : GoodT w T xs) : ht T ≤ 80 := by
  have h1 := h.ok.length
  have h2 := h.size
  rcases Int.lt_or_le 80 (ht T) with h3 | h3
  · have h4 := h.avl.size 40 (by omega)
    have h5 : (2 : Nat) ^ 40 = 1099511627776 := by decide
    omega
  · exact h3
theorem GoodT.ext {w w' : World} {T : Tr} {xs : List (Int × Int)} (h : GoodT w T xs) (hk : Kept Non w w') : GoodT w' T xs := ⟨h.inn.ext hk, h.avl, h.lst, h.ok⟩
theorem GoodT.kept {S : Nat → Prop} {w w' : World} {T : Tr} {xs : List (Int × Int)} (h : GoodT w T xs) (hk : Kept S w w') (hs : ∀ b, Blk b T → ¬ S b) : GoodT w' T xs := ⟨h.inn.kept hk hs, h.avl, h.lst, h.ok⟩

/-- the block of a header -/
def tObj (p : Value) (n : Nat) : Obj := .cells #[p, .int .i64 n] 78 (0, 0)

/-- a tree's header is read at an address -/
structure TreeAt (w : World) (b o : Nat) (xs : List (Int × Int)) : Prop where
  ex : ∃ T : Tr, w.cell? ⟨b, o, none⟩ = some T.ptr ∧ w.cell? ⟨b, o + 1, none⟩ = some (.int .i64 xs.length) ∧ GoodT w T xs

/-- a header is a block of its own -/
structure Head (w : World) (b : Nat) (xs : List (Int × Int)) : Prop where
  ex : ∃ T : Tr, w.heap[b]? = some (tObj T.ptr xs.length) ∧ GoodT w T xs
theorem Head.at {w : World} {b : Nat} {xs : List (Int × Int)} (h : Head w b xs) : TreeAt w b 0 xs := by
  obtain ⟨T, hb, hg⟩ := h.ex
  unfold tObj at hb
  exact ⟨T, by rw [cell_of hb]; rfl, by rw [cell_of hb]; rfl, hg⟩
/-- no header's block is a node's -/
theorem Head.not_blk {w : World} {b : Nat} {p : Value} {n : Nat} (hb : w.heap[b]? = some (tObj p n)) : ∀ {T : Tr}, In w T → ¬ Blk b T
  | .nil, _, h => h
  | .node _ _ _ _ _, hi, h => by
    rcases h with rfl | h | h
    · have h1 := hi.2.1
      rw [hb] at h1
      simp only [nodeObj, tObj, Option.some.injEq, Obj.cells.injEq, List.toArray_eq_iff, List.cons.injEq] at h1
      simp at h1
    · exact Head.not_blk hb hi.2.2.1 h
    · exact Head.not_blk hb hi.2.2.2 h

/-- data as they are told: nil where there are none -/
def dv (res : Option (Int × Int)) : Value := match res with
  | none => .nilIface
  | some a => .iface 3 (.int .i64 a.2)
/-- a key and its data as they are told -/
def kdv (res : Option (Int × Int)) : Value := match res with
  | none => .tuple #[.int .i32 (-2147483648), .nilIface]
  | some a => .tuple #[.int .i32 a.1, .iface 3 (.int .i64 a.2)]
theorem kd_map (res : Option (Int × Int)) : kd (res.map en) = kdv res := by cases res <;> rfl
theorem dv_map (res : Option (Int × Int)) : ((res.map en).map Prod.snd).getD .nilIface = dv res := by cases res <;> rfl

def findP (x : Int) (xs : List (Int × Int)) : Option (Int × Int) := xs.find? fun a => a.1 == x
def glbP (x : Int) (e : Bool) (xs : List (Int × Int)) : Option (Int × Int) := (xs.filter fun a => decide (a.1 < x) || (e && a.1 == x)).getLast?
def lubP (x : Int) (e : Bool) (xs : List (Int × Int)) : Option (Int × Int) := xs.find? fun a => decide (x < a.1) || (e && a.1 == x)
theorem findP_map (x : Int) (xs : List (Int × Int)) : (xs.map en).find? (atKey x) = (findP x xs).map en := by rw [List.find?_map]; rfl
theorem lubP_map (x : Int) (e : Bool) (xs : List (Int × Int)) : (xs.map en).find? (aboveKey x e) = (lubP x e xs).map en := by rw [List.find?_map]; rfl
theorem glbP_map (x : Int) (e : Bool) (xs : List (Int × Int)) : ((xs.map en).filter (belowKey x e)).getLast? = (glbP x e xs).map en := by
  rw [List.filter_map, List.getLast?_map]; rfl

theorem TSize_any (w : World) (b o : Nat) (xs : List (Int × Int)) (h : TreeAt w b o xs) :
    Calls Try.prog 38 #[.pointer (some ⟨b, o, none⟩)] w fun e w' => e = .returned (.int .i64 xs.length) ∧ w = w' := by
  obtain ⟨T, h0, h1, _⟩ := h.ex
  go_enter Try.func38, Try.ntmps38
  go_wp2
  go_ret
  exact ⟨rfl, rfl⟩

theorem TIsEmpty_any (w : World) (b o : Nat) (xs : List (Int × Int)) (h : TreeAt w b o xs) :
    Calls Try.prog 76 #[.pointer (some ⟨b, o, none⟩)] w fun e w' => e = .returned (.bool xs.isEmpty) ∧ w = w' := by
  obtain ⟨T, h0, h1, hg⟩ := h.ex
  have HL : Hid (tsize T = xs.length) := hg.size
  clear h hg h1
  cases T with
  | nil =>
    simp only [Deep.BT.ptr] at h0
    go_enter Try.func76, Try.ntmps76
    go_wp2
    go_ret
    have h1 := HL.out
    simp only [tsize] at h1
    cases xs with
    | nil => exact ⟨rfl, rfl⟩
    | cons a xs => simp at h1
  | node b' o' a l r =>
    simp only [Deep.BT.ptr] at h0
    go_enter Try.func76, Try.ntmps76
    go_wp2
    go_ret
    have h1 := HL.out
    simp only [tsize] at h1
    cases xs with
    | nil => simp at h1
    | cons a xs => exact ⟨rfl, rfl⟩

theorem TFind_any (w : World) (b o : Nat) (xs : List (Int × Int)) (x : Int) (h : TreeAt w b o xs) :
    Calls Try.prog 58 #[.pointer (some ⟨b, o, none⟩), .int .i32 x] w fun e w' => e = .returned (dv (findP x xs)) ∧ w = w' := by
  obtain ⟨T, h0, h1, hg⟩ := h.ex
  have HF : Hid (Calls Try.prog 83 #[T.ptr, .int .i32 x] w (RetPtr w ((findP x xs).map en))) := by
    have := find_any w T x hg.inn hg.srt
    rwa [hg.lst, findP_map] at this
  obtain ⟨u, fu⟩ := ptr_form T
  rw [fu] at h0 HF
  clear h hg h1
  go_enter Try.func58, Try.ntmps58
  go_wp2_with fail
  refine HF.out.mono ?_
  rintro e w' ⟨rfl, q, rfl, hq⟩
  go_wp2_with fail
  refine (nilOrData_any _ _ _ hq).mono ?_
  rintro e w' ⟨rfl, rfl⟩
  rw [dv_map]
  clear hq
  go_wp2
  go_ret
  exact ⟨rfl, rfl⟩

end Go.Proofs.Ytehegllgaiehfaa
