/- Structs compared; impl.Find, Min, Max, Glb, GlbEq, Lub, LubEq. -/
import Derived.Test.YtdmfnlhbddejiaaFnd2
namespace Go.Proofs.Ytdmfnlhbddejiaa
open Go.RowKit

set_option maxRecDepth 100000 in
theorem eql_fd0 (a b d e : Int) (p q : Bool) (w : World) : (binOp .eql 44 (.agg #[.int .i32 a, .int .i64 b, .bool p]) (.agg #[.int .i32 d, .int .i64 e, .bool q])).run Try.prog w = .ok (.bool (a == d && (b == e && p == q))) w := by
  simp [go_sem]
  by_cases h1 : a = d
  · by_cases h2 : b = e
    · by_cases h3 : p = q <;> simp [h1, h2, h3]
    · simp [h1, h2]
  · simp [h1]
set_option maxRecDepth 100000 in
theorem neq_fd0 (a b d e : Int) (p q : Bool) (w : World) : (binOp .neq 44 (.agg #[.int .i32 a, .int .i64 b, .bool p]) (.agg #[.int .i32 d, .int .i64 e, .bool q])).run Try.prog w = .ok (.bool (!(a == d && (b == e && p == q)))) w := by
  simp [go_sem]
  by_cases h1 : a = d
  · by_cases h2 : b = e
    · by_cases h3 : p = q <;> simp [h1, h2, h3]
    · simp [h1, h2]
  · simp [h1]
set_option maxRecDepth 100000 in
theorem neq_p0 (a b d e : Int) (w : World) : (binOp .neq 35 (.agg #[.int .i32 a, .int .i64 b]) (.agg #[.int .i32 d, .int .i64 e])).run Try.prog w = .ok (.bool (!(a == d && b == e))) w := by
  simp [go_sem]
  by_cases h1 : a = d
  · by_cases h2 : b = e <;> simp [h1, h2]
  · simp [h1]
theorem fd_beq (f g : Fd) : (f.1 == g.1 && (f.2.1 == g.2.1 && f.2.2 == g.2.2)) = (f == g) := rfl
theorem eql_fd (f g : Fd) (w : World) : (binOp .eql 44 (fv f) (fv g)).run Try.prog w = .ok (.bool (f == g)) w := eql_fd0 _ _ _ _ _ _ w
theorem neq_fd (f g : Fd) (w : World) : (binOp .neq 44 (fv f) (fv g)).run Try.prog w = .ok (.bool (f != g)) w := neq_fd0 _ _ _ _ _ _ w
end Go.Proofs.Ytdmfnlhbddejiaa
