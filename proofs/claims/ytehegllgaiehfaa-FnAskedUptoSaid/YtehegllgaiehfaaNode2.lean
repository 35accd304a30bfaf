/- What find, min, max, glb, lub, nilOrData, nilOrKeyAndData and isLeaf of a node tell, on every sorted tree that lies in memory. -/
import Derived.Test.YtehegllgaiehfaaPure
import Derived.Deep.LoopGhost
namespace Go.Proofs.Ytehegllgaiehfaa
open Go.RowKit

/-- a pointer to a node with a key and data, or nil -/
def PtrTo (w : World) (q : Value) (res : Option (Int × Value)) : Prop :=
  (res = none ∧ q = .pointer none) ∨ ∃ b l r h k d, res = some (k, d) ∧ q = .pointer (some ⟨b, 0, none⟩) ∧ w.heap[b]? = some (nodeObj l r d k h)
def RetPtr (w : World) (res : Option (Int × Value)) (e : Ending) (w' : World) : Prop := w = w' ∧ ∃ q, e = .returned q ∧ PtrTo w q res

theorem PtrTo.root {w : World} {b o : Nat} {a : Pl} {l r : Tr} (hi : In w (.node b o a l r)) : PtrTo w (.pointer (some ⟨b, o, none⟩)) (some (a.1, a.2.1)) := by
  obtain ⟨rfl, hb, _⟩ := hi
  exact .inr ⟨b, _, _, _, _, _, rfl, rfl, hb⟩

theorem find_any (w : World) (T : Tr) (x : Int) (hi : In w T) (hs : Srt (toL T)) :
    Calls Try.prog 83 #[T.ptr, .int .i32 x] w (RetPtr w ((toL T).find? (atKey x))) := by
  go_enter Try.func83, Try.ntmps83
  go_wp2
  go_loopg [0] (tsize T) (fun n p wr => w = wr ∧ ∃ T' : Tr, n = tsize T' ∧ p = T'.ptr ∧ In w T' ∧ Srt (toL T') ∧ (toL T).find? (atKey x) = (toL T').find? (atKey x))
  case atStart => exact ⟨rfl, T, rfl, rfl, hi, hs, rfl⟩
  case round =>
    obtain ⟨rfl, T', rfl, rfl, hi', hs', heq⟩ := hrel
    have HE : Hid ((toL T).find? (atKey x) = (toL T').find? (atKey x)) := heq
    clear heq hs hi
    cases T' with
    | nil =>
      simp only [Deep.BT.ptr]
      go_wp2
      go_ret
      refine ⟨rfl, _, rfl, .inl ⟨?_, rfl⟩⟩
      rw [HE.out]; rfl
    | node b o a l r =>
      have hroot := PtrTo.root hi'
      obtain ⟨rfl, hb, hil, hir⟩ := hi'
      have hn := nodeAt hb
      obtain ⟨c0, c1, c2, c3, c4, _⟩ := hn
      obtain ⟨hsl, hsr, _⟩ := hs'.parts
      have HS : Hid (Srt (toL (.node b 0 a l r))) := hs'
      have HB : Hid (In w l ∧ In w r ∧ Srt (toL l) ∧ Srt (toL r)) := ⟨hil, hir, hsl, hsr⟩
      have HR : Hid (PtrTo w (.pointer (some ⟨b, 0, none⟩)) (some (a.1, a.2.1))) := hroot
      clear hs' hb hil hir hsl hsr hroot
      simp only [Deep.BT.ptr]
      rcases Int.lt_trichotomy x a.1 with hx | hx | hx
      · go_wp2
        go_roundg (tsize l)
        case measure => simp [tsize]; omega
        case rel => exact ⟨rfl, l, rfl, rfl, HB.out.1, HB.out.2.2.1, HE.out.trans (find_lt HS.out hx)⟩
      · go_wp2
        go_ret
        refine ⟨rfl, _, rfl, ?_⟩
        rw [HE.out, find_eq HS.out hx]
        exact HR.out
      · go_wp2
        go_roundg (tsize r)
        case measure => simp [tsize]; omega
        case rel => exact ⟨rfl, r, rfl, rfl, HB.out.2.1, HB.out.2.2.2, HE.out.trans (find_gt HS.out hx)⟩


theorem glb_any (w : World) (T : Tr) (x : Int) (e : Bool) (hi : In w T) (hs : Srt (toL T)) :
    Calls Try.prog 65 #[T.ptr, .int .i32 x, .bool e] w (RetPtr w (((toL T).filter (belowKey x e)).getLast?)) := by
  go_enter Try.func65, Try.ntmps65
  go_wp2
  go_loopg [0, 7] (tsize T) (fun n p q wr => w = wr ∧ ∃ (T' : Tr) (res : Option (Int × Value)), n = tsize T' ∧ p = T'.ptr ∧ In w T' ∧ Srt (toL T') ∧ PtrTo w q res ∧ ((toL T).filter (belowKey x e)).getLast? = (((toL T').filter (belowKey x e)).getLast?).or res)
  case atStart => exact ⟨rfl, T, none, rfl, rfl, hi, hs, .inl ⟨rfl, rfl⟩, (Option.or_none ..).symm⟩
  case round =>
    obtain ⟨rfl, T', res, rfl, rfl, hi', hs', hp, heq⟩ := hrel
    have HE : Hid (((toL T).filter (belowKey x e)).getLast? = (((toL T').filter (belowKey x e)).getLast?).or res) := heq
    have HP : Hid (PtrTo w u7 res) := hp
    clear heq hs hi hp
    cases T' with
    | nil =>
      simp only [Deep.BT.ptr]
      go_wp2
      go_ret
      refine ⟨rfl, _, rfl, ?_⟩
      rw [HE.out]
      simpa [toL] using HP.out
    | node b o a l r =>
      have hroot := PtrTo.root hi'
      obtain ⟨rfl, hb, hil, hir⟩ := hi'
      have hn := nodeAt hb
      obtain ⟨c0, c1, c2, c3, c4, _⟩ := hn
      obtain ⟨hsl, hsr, _⟩ := hs'.parts
      have HS : Hid (Srt (toL (.node b 0 a l r))) := hs'
      have HB : Hid (In w l ∧ In w r ∧ Srt (toL l) ∧ Srt (toL r)) := ⟨hil, hir, hsl, hsr⟩
      have HR : Hid (PtrTo w (.pointer (some ⟨b, 0, none⟩)) (some (a.1, a.2.1))) := hroot
      clear hs' hb hil hir hsl hsr hroot
      simp only [Deep.BT.ptr]
      by_cases hx : x ≤ a.1
      · by_cases he : e = true ∧ x = a.1
        · obtain ⟨he1, he2⟩ := he
          subst he1
          go_wp2
          go_ret
          refine ⟨rfl, _, rfl, ?_⟩
          rw [HE.out, glb_eq HS.out he2 rfl, Option.some_or]
          exact HR.out
        · have HN : Hid (¬ (e = true ∧ x = a.1)) := he
          have hee : (e = false) ∨ (e = true ∧ (x == a.1) = false) := by
            cases e
            · exact .inl rfl
            · refine .inr ⟨rfl, ?_⟩
              simp at he
              simpa using he
          clear he
          rcases hee with rfl | ⟨rfl, hne⟩
          all_goals
            go_wp2
            go_roundg (tsize l)
            case measure => simp [tsize]; omega
            case rel => exact ⟨rfl, l, res, rfl, rfl, HB.out.1, HB.out.2.2.1, HP.out, by rw [HE.out, glb_le HS.out hx (by have h := HN.out; simp at h ⊢; try exact h)]⟩
      · have hx' : a.1 < x := by omega
        clear hx
        go_wp2
        go_roundg (tsize r)
        case measure => simp [tsize]; omega
        case rel => exact ⟨rfl, r, some (a.1, a.2.1), rfl, rfl, HB.out.2.1, HB.out.2.2.2, HR.out, by rw [HE.out, glb_gt hx']; cases ((toL r).filter (belowKey x e)).getLast? <;> rfl⟩

theorem lub_any (w : World) (T : Tr) (x : Int) (e : Bool) (hi : In w T) (hs : Srt (toL T)) :
    Calls Try.prog 67 #[T.ptr, .int .i32 x, .bool e] w (RetPtr w ((toL T).find? (aboveKey x e))) := by
  go_enter Try.func67, Try.ntmps67
  go_wp2
  go_loopg [0, 7] (tsize T) (fun n p q wr => w = wr ∧ ∃ (T' : Tr) (res : Option (Int × Value)), n = tsize T' ∧ p = T'.ptr ∧ In w T' ∧ Srt (toL T') ∧ PtrTo w q res ∧ (toL T).find? (aboveKey x e) = ((toL T').find? (aboveKey x e)).or res)
  case atStart => exact ⟨rfl, T, none, rfl, rfl, hi, hs, .inl ⟨rfl, rfl⟩, (Option.or_none ..).symm⟩
  case round =>
    obtain ⟨rfl, T', res, rfl, rfl, hi', hs', hp, heq⟩ := hrel
    have HE : Hid ((toL T).find? (aboveKey x e) = ((toL T').find? (aboveKey x e)).or res) := heq
    have HP : Hid (PtrTo w u7 res) := hp
    clear heq hs hi hp
    cases T' with
    | nil =>
      simp only [Deep.BT.ptr]
      go_wp2
      go_ret
      refine ⟨rfl, _, rfl, ?_⟩
      rw [HE.out]
      simpa [toL] using HP.out
    | node b o a l r =>
      have hroot := PtrTo.root hi'
      obtain ⟨rfl, hb, hil, hir⟩ := hi'
      have hn := nodeAt hb
      obtain ⟨c0, c1, c2, c3, c4, _⟩ := hn
      obtain ⟨hsl, hsr, _⟩ := hs'.parts
      have HS : Hid (Srt (toL (.node b 0 a l r))) := hs'
      have HB : Hid (In w l ∧ In w r ∧ Srt (toL l) ∧ Srt (toL r)) := ⟨hil, hir, hsl, hsr⟩
      have HR : Hid (PtrTo w (.pointer (some ⟨b, 0, none⟩)) (some (a.1, a.2.1))) := hroot
      clear hs' hb hil hir hsl hsr hroot
      simp only [Deep.BT.ptr]
      by_cases hx : a.1 ≤ x
      · by_cases he : e = true ∧ x = a.1
        · obtain ⟨he1, he2⟩ := he
          subst he1
          go_wp2
          go_ret
          refine ⟨rfl, _, rfl, ?_⟩
          rw [HE.out, lub_eq HS.out he2 rfl, Option.some_or]
          exact HR.out
        · have HN : Hid (¬ (e = true ∧ x = a.1)) := he
          have hee : (e = false) ∨ (e = true ∧ (x == a.1) = false) := by
            cases e
            · exact .inl rfl
            · refine .inr ⟨rfl, ?_⟩
              simp at he
              simpa using he
          clear he
          rcases hee with rfl | ⟨rfl, hne⟩
          all_goals
            go_wp2
            go_roundg (tsize r)
            case measure => simp [tsize]; omega
            case rel => exact ⟨rfl, r, res, rfl, rfl, HB.out.2.1, HB.out.2.2.2, HP.out, by rw [HE.out, lub_ge HS.out hx (by have h := HN.out; simp at h ⊢; try exact h)]⟩
      · have hx' : x < a.1 := by omega
        clear hx
        go_wp2
        go_roundg (tsize l)
        case measure => simp [tsize]; omega
        case rel => exact ⟨rfl, l, some (a.1, a.2.1), rfl, rfl, HB.out.1, HB.out.2.2.1, HR.out, by rw [HE.out, lub_lt hx']; cases (toL l).find? (aboveKey x e) <;> rfl⟩

theorem min_any (w : World) (T : Tr) (hi : In w T) :
    Calls Try.prog 66 #[T.ptr] w (RetPtr w ((toL T).head?)) := by
  cases T with
  | nil =>
    simp only [Deep.BT.ptr]
    go_enter Try.func66, Try.ntmps66
    go_wp2
    go_ret
    exact ⟨rfl, _, rfl, .inl ⟨rfl, rfl⟩⟩
  | node b o a l r =>
    go_enter Try.func66, Try.ntmps66
    simp only [Deep.BT.ptr]
    go_wp2
    go_loopg [0] (tsize (.node b o a l r)) (fun n p wr => w = wr ∧ ∃ (b' o' : Nat) (a' : Pl) (l' r' : Tr), n = tsize (.node b' o' a' l' r') ∧ p = .pointer (some ⟨b', o', none⟩) ∧ In w (.node b' o' a' l' r') ∧ (toL (.node b o a l r)).head? = (toL (.node b' o' a' l' r')).head?)
    case atStart => exact ⟨rfl, b, o, a, l, r, rfl, rfl, hi, rfl⟩
    case round =>
      obtain ⟨rfl, b', o', a', l', r', rfl, rfl, hi', heq⟩ := hrel
      have HE : Hid ((toL (.node b o a l r)).head? = (toL (.node b' o' a' l' r')).head?) := heq
      clear heq hi
      have hroot := PtrTo.root hi'
      obtain ⟨rfl, hb, hil, hir⟩ := hi'
      have hn := nodeAt hb
      obtain ⟨c0, c1, c2, c3, c4, _⟩ := hn
      have HB : Hid (In w l') := hil
      have HR : Hid (PtrTo w (.pointer (some ⟨b', 0, none⟩)) (some (a'.1, a'.2.1))) := hroot
      clear hb hil hir hroot
      cases l' with
      | nil =>
        simp only [Deep.BT.ptr] at c0
        go_wp2
        go_ret
        refine ⟨rfl, _, rfl, ?_⟩
        rw [HE.out]
        simpa [toL] using HR.out
      | node b2 o2 a2 l2 r2 =>
        simp only [Deep.BT.ptr] at c0
        go_wp2
        go_roundg (tsize (.node b2 o2 a2 l2 r2))
        case measure => simp [tsize]; omega
        case rel => exact ⟨rfl, b2, o2, a2, l2, r2, rfl, rfl, HB.out, HE.out.trans (min_left (by simp))⟩

theorem max_any (w : World) (T : Tr) (hi : In w T) :
    Calls Try.prog 63 #[T.ptr] w (RetPtr w ((toL T).getLast?)) := by
  cases T with
  | nil =>
    simp only [Deep.BT.ptr]
    go_enter Try.func63, Try.ntmps63
    go_wp2
    go_ret
    exact ⟨rfl, _, rfl, .inl ⟨rfl, rfl⟩⟩
  | node b o a l r =>
    go_enter Try.func63, Try.ntmps63
    simp only [Deep.BT.ptr]
    go_wp2
    go_loopg [0] (tsize (.node b o a l r)) (fun n p wr => w = wr ∧ ∃ (b' o' : Nat) (a' : Pl) (l' r' : Tr), n = tsize (.node b' o' a' l' r') ∧ p = .pointer (some ⟨b', o', none⟩) ∧ In w (.node b' o' a' l' r') ∧ (toL (.node b o a l r)).getLast? = (toL (.node b' o' a' l' r')).getLast?)
    case atStart => exact ⟨rfl, b, o, a, l, r, rfl, rfl, hi, rfl⟩
    case round =>
      obtain ⟨rfl, b', o', a', l', r', rfl, rfl, hi', heq⟩ := hrel
      have HE : Hid ((toL (.node b o a l r)).getLast? = (toL (.node b' o' a' l' r')).getLast?) := heq
      clear heq hi
      have hroot := PtrTo.root hi'
      obtain ⟨rfl, hb, hil, hir⟩ := hi'
      have hn := nodeAt hb
      obtain ⟨c0, c1, c2, c3, c4, _⟩ := hn
      have HB : Hid (In w r') := hir
      have HR : Hid (PtrTo w (.pointer (some ⟨b', 0, none⟩)) (some (a'.1, a'.2.1))) := hroot
      clear hb hil hir hroot
      cases r' with
      | nil =>
        simp only [Deep.BT.ptr] at c1
        go_wp2
        go_ret
        refine ⟨rfl, _, rfl, ?_⟩
        rw [HE.out]
        simpa [toL] using HR.out
      | node b2 o2 a2 l2 r2 =>
        simp only [Deep.BT.ptr] at c1
        go_wp2
        go_roundg (tsize (.node b2 o2 a2 l2 r2))
        case measure => simp [tsize]; omega
        case rel => exact ⟨rfl, b2, o2, a2, l2, r2, rfl, rfl, HB.out, HE.out.trans (max_right (by simp))⟩

theorem nilOrData_any (w : World) (q : Value) (res : Option (Int × Value)) (h : PtrTo w q res) :
    Calls Try.prog 84 #[q] w fun e w' => e = .returned ((res.map Prod.snd).getD .nilIface) ∧ w = w' := by
  rcases h with ⟨rfl, rfl⟩ | ⟨b, l, r, h, k, d, rfl, rfl, hb⟩
  · go_enter Try.func84, Try.ntmps84
    go_wp2
    go_ret
    exact ⟨rfl, rfl⟩
  · obtain ⟨c0, c1, c2, c3, c4, _⟩ := nodeAt hb
    clear hb
    go_enter Try.func84, Try.ntmps84
    go_wp2
    go_ret
    exact ⟨rfl, rfl⟩

/-- a key and its data as they are told: the key that stands for none, and nil, where there is none -/
def kd (res : Option (Int × Value)) : Value := match res with
  | none => .tuple #[.int .i32 (-2147483648), .nilIface]
  | some a => .tuple #[.int .i32 a.1, a.2]

theorem nilOrKeyAndData_any (w : World) (q : Value) (res : Option (Int × Value)) (h : PtrTo w q res) :
    Calls Try.prog 64 #[q] w fun e w' => e = .returned (kd res) ∧ w = w' := by
  rcases h with ⟨rfl, rfl⟩ | ⟨b, l, r, h, k, d, rfl, rfl, hb⟩
  · go_enter Try.func64, Try.ntmps64
    go_wp2
    go_ret2
    exact ⟨rfl, rfl⟩
  · obtain ⟨c0, c1, c2, c3, c4, _⟩ := nodeAt hb
    clear hb
    go_enter Try.func64, Try.ntmps64
    go_wp2
    go_ret2
    exact ⟨rfl, rfl⟩

end Go.Proofs.Ytehegllgaiehfaa
