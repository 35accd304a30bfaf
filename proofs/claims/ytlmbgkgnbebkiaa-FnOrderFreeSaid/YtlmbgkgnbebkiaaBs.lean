/- Slices of bools and of numbers. -/
import Derived.Test.YtlmbgkgnbebkiaaSl
namespace Go.Proofs.Ytlmbgkgnbebkiaa
open Go.RowKit

def bc (b : Bool) : List Value := [.bool b]
theorem bc_enc (b : Bool) : (bc b).length = 1 ∧ ∀ u ∈ bc b, u.oneCell' = true := ⟨rfl, fun u hu => by simp [bc] at hu; subst hu; rfl⟩
abbrev SlB := @Sl Bool 1 bc
abbrev OwnB := @Own Bool 1 bc 4
theorem tyB : ElTy 34 4 1 1 := elTy_of (z := .bool false) (by kernel_rfl) (by kernel_rfl) rfl (by decide)
theorem OwnB.sl {base : Nat} {w : World} {v : Value} {bs : List Bool} (h : OwnB base w v bs) : SlB w v bs := Own.sl (fun b => (bc_enc b).1) h
theorem Sl.bool {w w' : World} {a : Option Addr} {n cap : Nat} {bs : List Bool} (h : SlB w (.slice a n cap) bs) (hk : Kept Non w w') (k : Nat) (hlt : k < bs.length) :
    ∃ b off, a = some ⟨b, off, none⟩ ∧ b < w.heap.size ∧ w'.cell? ⟨b, off + k, none⟩ = some (.bool bs[k]) := by
  obtain ⟨b, off, ha, hb, hc⟩ := h.cells hk k hlt
  exact ⟨b, off, ha, hb, by simpa using hc 0 _ rfl⟩

def nc (n : Int) : List Value := [.int .i64 n]
abbrev SlN := @Sl Int 1 nc
theorem Sl.num {w w' : World} {a : Option Addr} {n cap : Nat} {ns : List Int} (h : SlN w (.slice a n cap) ns) (hk : Kept Non w w') (k : Nat) (hlt : k < ns.length) :
    ∃ b off, a = some ⟨b, off, none⟩ ∧ b < w.heap.size ∧ w'.cell? ⟨b, off + k, none⟩ = some (.int .i64 ns[k]) := by
  obtain ⟨b, off, ha, hb, hc⟩ := h.cells hk k hlt
  exact ⟨b, off, ha, hb, by simpa using hc 0 _ rfl⟩

end Go.Proofs.Ytlmbgkgnbebkiaa
