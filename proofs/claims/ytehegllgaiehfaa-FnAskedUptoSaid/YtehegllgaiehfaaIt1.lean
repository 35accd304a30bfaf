/- Iterators: the stack of parents, leftmost, done. -/
import Derived.Test.YtehegllgaiehfaaDel1
import Derived.Test.YtehegllgaiehfaaSl
namespace Go.Proofs.Ytehegllgaiehfaa
open Go.RowKit

/-- a frame of the stack: whether the node itself and its right side are still to come; the subtree -/
abbrev Fr := Bool × Tr
def child : Bool → Tr → Tr
  | _, .nil => .nil
  | true, .node _ _ _ l _ => l
  | false, .node _ _ _ _ r => r
/-- what a frame still has to tell -/
def own1 : Bool → Tr → List (Int × Value)
  | true, .node _ _ a _ r => (a.1, a.2.1) :: toL r
  | _, _ => []
/-- what is still to be told, the stack's top first -/
def rest : List Fr → List (Int × Value)
  | [] => []
  | f :: fs => own1 f.1 f.2 ++ rest fs
/-- the frames that leftmost pushes -/
def spine : Tr → List Fr → List Fr
  | .nil, st => st
  | .node b o a l r, st => spine l ((true, .node b o a l r) :: st)
theorem rest_spine : ∀ (T : Tr) (st : List Fr), rest (spine T st) = toL T ++ rest st
  | .nil, st => rfl
  | .node b o a l r, st => by
    rw [spine, rest_spine l, toL_node, rest]
    simp [own1]

/-- a tree as the calls want it -/
structure Tree1 (w : World) (T : Tr) : Prop where
  inn : In w T
  avl : Avl T
  srt : Srt (toL T)
  dat : DataOk T
def Link (st : List Fr) (T : Tr) : Prop := ∀ f P fs, st = (f, P) :: fs → child f P = T
def Chain (w : World) (N : Nat) : List Fr → Prop
  | [] => True
  | f :: fs => f.2 ≠ .nil ∧ Tree1 w f.2 ∧ (fs.length : Int) + ht f.2 ≤ N ∧ Link fs f.2 ∧ Chain w N fs
def ptrs (st : List Fr) : List Value := (st.map fun f => f.2.ptr).reverse
theorem ptrs_cons (f : Fr) (st : List Fr) : ptrs (f :: st) = ptrs st ++ [f.2.ptr] := by simp [ptrs]
theorem ptrs_length (st : List Fr) : (ptrs st).length = st.length := by simp [ptrs]

/-- an iterator lies in block ib, its row in block g -/
structure ItAt (w : World) (ib g cap : Nat) (st : List Fr) : Prop where
  hdr : ∃ ty, w.heap[ib]? = some (.cells #[.slice (some ⟨g, 0, none⟩) st.length cap] ty (0, 0))
  row : w.ownsRow 0 76 1 (.slice (some ⟨g, 0, none⟩) st.length cap) st.length (ptrs st)
  ne : ib ≠ g
  chain : Chain w cap st

theorem Tree1.kept {S : Nat → Prop} {w w' : World} {T : Tr} (h : Tree1 w T) (hk : Kept S w w') (hs : ∀ b, Blk b T → ¬ S b) : Tree1 w' T := ⟨h.inn.kept hk hs, h.avl, h.srt, h.dat⟩
theorem Chain.kept {S : Nat → Prop} {w w' : World} {N : Nat} (hk : Kept S w w') (hs : ∀ T, In w T → ∀ b, Blk b T → ¬ S b) : ∀ {st : List Fr}, Chain w N st → Chain w' N st
  | [], _ => trivial
  | _ :: _, h => ⟨h.1, h.2.1.kept hk (hs _ h.2.1.inn), h.2.2.1, h.2.2.2.1, Chain.kept hk hs h.2.2.2.2⟩
theorem not_blk_hdr {w : World} {ib : Nat} {v : Value} {ty : TypeId} (h : w.heap[ib]? = some (.cells #[v] ty (0, 0))) {T : Tr} (hi : In w T) : ¬ Blk ib T := fun hB => by
  obtain ⟨l, r, d, k, h', ho⟩ := hi.obj hB
  rw [h] at ho
  simp [nodeObj] at ho
theorem not_blk_row {w : World} {g : Nat} {cur : Array Value} (h : w.heap[g]? = some (.cells cur 76 (0, 0))) {T : Tr} (hi : In w T) : ¬ Blk g T := fun hB => by
  obtain ⟨l, r, d, k, h', ho⟩ := hi.obj hB
  rw [h] at ho
  simp [nodeObj] at ho
theorem ItAt.rowB {w : World} {ib g cap : Nat} {st : List Fr} (h : ItAt w ib g cap st) : ∃ cur, w.heap[g]? = some (.cells cur 76 (0, 0)) ∧ st.length ≤ cap ∧ cap ≤ maxLen ∧ cur.size = cap ∧ cur.toList.take st.length = ptrs st := by
  rcases h.row.2 with ⟨h1, _⟩ | ⟨g', cap', cur, h1, _, h2, h3, h4, h5, h6⟩
  · cases h1
  · cases h1
    exact ⟨cur, h2, h3, h4, by simpa using h5, by simpa using h6⟩
theorem ItAt.apart {w : World} {ib g cap : Nat} {st : List Fr} (h : ItAt w ib g cap st) {T : Tr} (hi : In w T) : ∀ b, Blk b T → ¬ Two ib g b := fun b hB e => by
  obtain ⟨ty, h1⟩ := h.hdr
  obtain ⟨cur, h2, _⟩ := h.rowB
  rcases e with rfl | rfl
  · exact not_blk_hdr h1 hi hB
  · exact not_blk_row h2 hi hB
theorem kept_grown {w w' : World} {g : Nat} (h : w.grownBy w' (some g)) : Kept (One g) w w' := ⟨h.os, h.tape, h.output, h.size, fun k hk hn => h.block k hk (fun e => hn (by cases e; rfl))⟩
/-- other calls leave an iterator as it is -/
theorem ItAt.ext {S : Nat → Prop} {w w' : World} {ib g cap : Nat} {st : List Fr} (h : ItAt w ib g cap st) (hk : Kept S w w') (h1 : ¬ S ib) (h2 : ¬ S g) (hs : ∀ T, In w T → ∀ b, Blk b T → ¬ S b) : ItAt w' ib g cap st := by
  obtain ⟨ty, a1⟩ := h.hdr
  obtain ⟨cur, b1, b2, b3, b4, b5⟩ := h.rowB
  refine ⟨⟨ty, (hk.block _ (block_lt a1) h1).trans a1⟩, ⟨h.row.1, .inr ⟨g, cap, cur, rfl, Nat.zero_le _, (hk.block _ (block_lt b1) h2).trans b1, b2, b3, by simpa using b4, by simpa using b5⟩⟩, h.ne, h.chain.kept hk hs⟩

theorem row_same {w w' : World} {base e size g n cap : Nat} {xs : List Value} (h : w.ownsRow base e size (.slice (some ⟨g, 0, none⟩) n cap) n xs) (hb : w'.heap[g]? = w.heap[g]?) : w'.ownsRow base e size (.slice (some ⟨g, 0, none⟩) n cap) n xs := by
  refine ⟨h.1, ?_⟩
  rcases h.2 with ⟨h1, _⟩ | ⟨g', cap', cur, h1, h0, h2, h3⟩
  · cases h1
  · cases h1
    exact .inr ⟨g, cap, cur, rfl, h0, hb.trans h2, h3⟩
theorem tyN : ∃ i, Try.prog.info? 76 = some i ∧ i.size = 1 ∧ i.zero = some (.pointer none) ∧ i.bytes = 8 := by
  have h : (Try.prog.info? 76).map (fun i => (i.size, i.zero, i.bytes)) = some (1, some (.pointer none), 8) := by kernel_rfl
  cases hh : Try.prog.info? 76 with
  | none => rw [hh] at h; cases h
  | some i => rw [hh] at h; simp at h; exact ⟨i, rfl, h.1, h.2.1, h.2.2⟩
theorem undN : Try.prog.underlying 81 = some (.slice 76) := by kernel_rfl

def LeftPost (w : World) (ib g cap : Nat) (st : List Fr) (e : Ending) (w' : World) : Prop := e = .returned (.tuple #[]) ∧ ItAt w' ib g cap st ∧ Kept (Two ib g) w w'

set_option maxRecDepth 100000 in
theorem leftmost_any (w : World) (ib g cap : Nat) (st : List Fr) (T : Tr) (h : ItAt w ib g cap st) (hT : Tree1 w T) (hb : (st.length : Int) + ht T ≤ cap) (hl : Link st T) :
    Calls Try.prog 94 #[.pointer (some ⟨ib, 0, none⟩), T.ptr] w (LeftPost w ib g cap (spine T st)) := by
  obtain ⟨ti, hti, hts, _, _⟩ := tyN
  have HT0 := hid0 (And.intro h (And.intro hT (And.intro hb hl)))
  have HTI := hid0 (And.intro hti hts)
  obtain ⟨F, hF⟩ : ∃ F, F = spine T st := ⟨_, rfl⟩
  rw [← hF]
  have HF := hid0 hF
  clear h hT hb hl hti hts hF
  go_enter Try.func94, Try.ntmps94
  go_wp2
  go_loopg [1] (tsize T) (fun n p wr => ∃ (T' : Tr) (st' : List Fr), n = tsize T' ∧ p = T'.ptr ∧ F = spine T' st' ∧ ItAt wr ib g cap st' ∧ Tree1 wr T' ∧ (st'.length : Int) + ht T' ≤ cap ∧ Link st' T' ∧ Kept (Two ib g) w wr)
  case atStart => exact ⟨T, st, rfl, rfl, HF.out, HT0.out.1, HT0.out.2.1, HT0.out.2.2.1, HT0.out.2.2.2, Kept.refl _ _⟩
  case round =>
    obtain ⟨T', st', rfl, rfl, hsp, hit, htr, hbn, hln, hK⟩ := hrel
    have HR := hid0 (And.intro hsp (And.intro hit (And.intro htr (And.intro hbn (And.intro hln hK)))))
    clear hsp htr hbn hln hK
    cases T' with
    | nil =>
      clear hit
      simp only [Deep.BT.ptr]
      go_wp2
      go_end0
      obtain ⟨h1, h2, _, _, _, h6⟩ := HR.out
      rw [LeftPost, h1]
      exact ⟨rfl, h2, h6⟩
    | node b o a l r =>
      obtain ⟨ty, hh⟩ := hit.hdr
      obtain ⟨cur, hg, _⟩ := hit.rowB
      have hne := hit.ne
      have c0 : wr.cell? ⟨ib, 0, none⟩ = some (.slice (some ⟨g, 0, none⟩) st'.length cap) := by rw [cell_of hh]; rfl
      have cf := frozen_of hh
      have hil : ib < wr.heap.size := block_lt hh
      have hgl : g < wr.heap.size := block_lt hg
      obtain ⟨rfl, hbk, hinl, hinr⟩ := HR.out.2.2.1.inn
      have hbl : b < wr.heap.size := block_lt hbk
      have hbi : b ≠ ib := fun e => HR.out.2.1.apart HR.out.2.2.1.inn b (.inl rfl) (.inl e)
      have hbg : b ≠ g := fun e => HR.out.2.1.apart HR.out.2.2.1.inn b (.inl rfl) (.inr e)
      have hfit : st'.length + 1 ≤ cap := by
        have h1 := HR.out.2.2.2.1
        have h2 := HR.out.2.2.1.avl
        have h3 := h2.1
        have h4 := Avl.ht_nonneg h2.2.2.2.1
        have h5 : ht (.node b 0 a l r) = a.2.2 := rfl
        omega
      have HB := hid0 (And.intro hbk (And.intro hh hg))
      obtain ⟨ul, fl⟩ := ptr_form l
      clear hit hh hg hbk hinl hinr
      simp only [Deep.BT.ptr]
      go_wp2_with (at_builtin; refine wpList_append_fits _ rfl (.tmp 10) (.tmp 12) 81 rfl 0 76 ti 1 undN HTI.out.1 HTI.out.2 g st'.length cap (ptrs st') rfl (HR.out.2.1.row.alloc _) ⟨wr.heap.size, 0, none⟩ 1 1 [.pointer (some ⟨b, 0, none⟩)] rfl rfl (fun j u hj => by rw [Addr.add_lit]; simpa using new_cells (w := wr) (cs := [.pointer (some ⟨b, 0, none⟩)]) (E := 76) rfl j u hj) (by simp [Value.oneCell']) hfit ?_)
      intro w1 g1 g2
      have hk1 : Kept (One g) wr w1 := ((Kept.refl (One g) wr).alloc _).trans (kept_grown g2)
      have hh1 := (hk1.block _ hil hne).trans HB.out.2.1
      have hb1 := (hk1.block _ hbl hbg).trans HB.out.1
      have c0' : w1.cell? ⟨ib, 0, none⟩ = some (.slice (some ⟨g, 0, none⟩) st'.length cap) := by rw [cell_of hh1]; rfl
      have cf' := frozen_of hh1
      obtain ⟨t0, t1, t2, t3, t4, tf⟩ := nodeAt hb1
      rw [fl] at t0
      have HG := hid0 (And.intro g1 (And.intro hk1 hh1))
      clear c0 cf g1 g2 hk1 hh1 hb1 t1 t2 t3 t4 tf
      go_wp2
      go_roundg (tsize l)
      case measure => simp [tsize]; omega
      case rel =>
        obtain ⟨r1, r2, r3, r4, r5, r6⟩ := HR.out
        obtain ⟨g1, hk1, hh1⟩ := HG.out
        have hk2 : Kept (Two ib g) wr (w1.setCell ⟨ib, 0, none⟩ (.slice (some ⟨g, 0, none⟩) (st'.length + 1) cap)) := (hk1.mono (S' := Two ib g) (fun _ _ h => .inr h)).setCell _ _ (fun _ => .inl rfl)
        have hap : ∀ T, In wr T → ∀ b, Blk b T → ¬ Two ib g b := fun T hT => r2.apart hT
        have av := r3.avl
        have a1 := av.1
        have a2 := Avl.ht_nonneg av.2.2.2.2
        obtain ⟨s1, _⟩ := r3.srt.parts
        refine ⟨l, (true, .node b 0 _ l r) :: st', rfl, fl.symm, r1, ⟨⟨ty, set_block hh1 0 _⟩, ?_, hne, ⟨by simp, r3.kept hk2 (hap _ r3.inn), r4, r5, r2.chain.kept hk2 hap⟩⟩, ?_, ?_, ?_, r6.trans hk2⟩
        · rw [ptrs_cons]
          exact row_same g1 (set_other (Ne.symm hne))
        · exact Tree1.kept ⟨r3.inn.2.2.1, av.2.2.2.1, s1, r3.dat.2.1⟩ hk2 (hap _ r3.inn.2.2.1)
        · simp only [List.length_cons]
          simp only [ht_node] at r4
          omega
        · intro f P fs e
          cases e
          rfl

end Go.Proofs.Ytehegllgaiehfaa
