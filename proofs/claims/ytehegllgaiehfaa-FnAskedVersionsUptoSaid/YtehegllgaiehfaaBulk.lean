/- How long an argument can be, where the arguments hold at most so many values together. -/
import Derived.Test.YtehegllgaiehfaaOpen
namespace Go.Proofs.Ytehegllgaiehfaa
open Go.ChangeShapes Go.WideShapes Go.ChangeAt Go.RowKit Go.Deep

theorem uptoBulk_pos {H : Type} (d : DataW H) : 1 ≤ Rows.uptoBulk d := by
  cases d with
  | lit l => cases l <;> simp [Rows.uptoBulk]
  | _ => simp [Rows.uptoBulk]
theorem bulkAll_len {H : Type} : ∀ ds : List (DataW H), ds.length ≤ Rows.uptoBulkAll ds
  | [] => by simp
  | d :: ds => by
    have h1 := uptoBulk_pos d
    have h2 := bulkAll_len ds
    simp only [Rows.uptoBulkAll, List.length_cons]
    omega
theorem bulk_get {H : Type} {d : DataW H} : ∀ {ds : List (DataW H)} {j : Nat}, ds[j]? = some d → Rows.uptoBulk d ≤ Rows.uptoBulkAll ds
  | [], _, h => by simp at h
  | e :: ds, 0, h => by
    simp at h
    subst h
    simp only [Rows.uptoBulkAll]
    omega
  | e :: ds, j + 1, h => by
    have := bulk_get (ds := ds) (j := j) (by simpa using h)
    simp only [Rows.uptoBulkAll]
    omega
theorem bulk_any {H : Type} {α : Type} {ds : List (DataW H)} (hk : Rows.uptoSmall H ds = true) {j : Nat} {d : DataW H} (hd : ds[j]? = some d) {ps : List α} (hx : (d = .nil ∧ ps = []) ∨ ∃ elems spare, d = .slice elems spare ∧ elems.length = ps.length) : ps.length ≤ 1048576 := by
  rcases hx with ⟨_, rfl⟩ | ⟨elems, spare, rfl, he⟩
  · simp
  · have h1 := bulk_get hd
    have h2 := bulkAll_len elems
    simp only [Rows.uptoBulk] at h1
    simp only [Rows.uptoSmall, decide_eq_true_eq] at hk
    omega
theorem bulk_P {H : Type} {ds : List (DataW H)} (hk : Rows.uptoSmall H ds = true) {j : Nat} {d : DataW H} (hd : ds[j]? = some d) {ps : List (Int × Int)} (hx : (d = .nil ∧ ps = []) ∨ ∃ elems spare, d = .slice elems spare ∧ elems.length = ps.length) : ps.length ≤ 1048576 := bulk_any hk hd hx
end Go.Proofs.Ytehegllgaiehfaa
