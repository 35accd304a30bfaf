/- What find, min, max, glb, lub, nilOrData, nilOrKeyAndData and isLeaf of a node tell, on every sorted tree that lies in memory. -/
import Derived.Test.YtdmfnlhbddejiaaPure
import Derived.Deep.LoopGhost
namespace Go.Proofs.Ytdmfnlhbddejiaa
open Go.RowKit

/-- a pointer to a node with a key and data, or nil -/
def PtrTo (w : World) (q : Value) (res : Option (Int × Value)) : Prop :=
  (res = none ∧ q = .pointer none) ∨ ∃ b l r h k d, res = some (k, d) ∧ q = .pointer (some ⟨b, 0, none⟩) ∧ w.heap[b]? = some (nodeObj l r d k h)
def RetPtr (w : World) (res : Option (Int × Value)) (e : Ending) (w' : World) : Prop := w = w' ∧ ∃ q, e = .returned q ∧ PtrTo w q res

theorem PtrTo.root {w : World} {b o : Nat} {a : Pl} {l r : Tr} (hi : In w (.node b o a l r)) : PtrTo w (.pointer (some ⟨b, o, none⟩)) (some (a.1, a.2.1)) := by
  obtain ⟨rfl, hb, _⟩ := hi
  exact .inr ⟨b, _, _, _, _, _, rfl, rfl, hb⟩

theorem find_any (w : World) (T : Tr) (x : Int) (hi : In w T) (hs : Srt (toL T)) :
    Calls Try.prog 56 #[T.ptr, .int .i32 x] w (RetPtr w ((toL T).find? (atKey x))) := by
  go_enter Try.func56, Try.ntmps56
  go_wp2
  go_loopg [0] (tsize T) (fun n p wr => w = wr ∧ ∃ T' : Tr, n = tsize T' ∧ p = T'.ptr ∧ In w T' ∧ Srt (toL T') ∧ (toL T).find? (atKey x) = (toL T').find? (atKey x))
  case atStart => exact ⟨rfl, T, rfl, rfl, hi, hs, rfl⟩
  case round =>
    obtain ⟨rfl, T', rfl, rfl, hi', hs', heq⟩ := hrel
    have HE : Hid ((toL T).find? (atKey x) = (toL T').find? (atKey x)) := heq
    clear heq hs hi
    cases T' with
    | nil =>
      simp only [Deep.BT.ptr]
      go_wp2
      go_ret
      refine ⟨rfl, _, rfl, .inl ⟨?_, rfl⟩⟩
      rw [HE.out]; rfl
    | node b o a l r =>
      have hroot := PtrTo.root hi'
      obtain ⟨rfl, hb, hil, hir⟩ := hi'
      have hn := nodeAt hb
      obtain ⟨c0, c1, c2, c3, c4, _⟩ := hn
      obtain ⟨hsl, hsr, _⟩ := hs'.parts
      have HS : Hid (Srt (toL (.node b 0 a l r))) := hs'
      have HB : Hid (In w l ∧ In w r ∧ Srt (toL l) ∧ Srt (toL r)) := ⟨hil, hir, hsl, hsr⟩
      have HR : Hid (PtrTo w (.pointer (some ⟨b, 0, none⟩)) (some (a.1, a.2.1))) := hroot
      clear hs' hb hil hir hsl hsr hroot
      simp only [Deep.BT.ptr]
      rcases Int.lt_trichotomy x a.1 with hx | hx | hx
      · go_wp2
        go_roundg (tsize l)
        case measure => simp [tsize]; omega
        case rel => exact ⟨rfl, l, rfl, rfl, HB.out.1, HB.out.2.2.1, HE.out.trans (find_lt HS.out hx)⟩
      · go_wp2
        go_ret
        refine ⟨rfl, _, rfl, ?_⟩
        rw [HE.out, find_eq HS.out hx]
        exact HR.out
      · go_wp2
        go_roundg (tsize r)
        case measure => simp [tsize]; omega
        case rel => exact ⟨rfl, r, rfl, rfl, HB.out.2.1, HB.out.2.2.2, HE.out.trans (find_gt HS.out hx)⟩


theorem nilOrData_any (w : World) (q : Value) (res : Option (Int × Value)) (h : PtrTo w q res) :
    Calls Try.prog 57 #[q] w fun e w' => e = .returned ((res.map Prod.snd).getD .nilIface) ∧ w = w' := by
  rcases h with ⟨rfl, rfl⟩ | ⟨b, l, r, h, k, d, rfl, rfl, hb⟩
  · go_enter Try.func57, Try.ntmps57
    go_wp2
    go_ret
    exact ⟨rfl, rfl⟩
  · obtain ⟨c0, c1, c2, c3, c4, _⟩ := nodeAt hb
    clear hb
    go_enter Try.func57, Try.ntmps57
    go_wp2
    go_ret
    exact ⟨rfl, rfl⟩

/-- a key and its data as they are told: the key that stands for none, and nil, where there is none -/
def kd (res : Option (Int × Value)) : Value := match res with
  | none => .tuple #[.int .i32 (-2147483648), .nilIface]
  | some a => .tuple #[.int .i32 a.1, a.2]

end Go.Proofs.Ytdmfnlhbddejiaa
