/-
  '!=' between equal values: instants (34), events (52), entries (54), floats (23).
-/
import Derived.Test.Qxb6628314aFloat
import Derived.Test.Qxb6628314aProg
import Derived.Laws.StructEq
namespace Go.Proofs.Qxb6628314a
open Go.RowKit

/-- Two nil pointers are equal. -/
theorem run_eqptr {P : Program} (w : World) (d : Nat) (t e : TypeId) (h : P.underlying t = some (.pointer e)) : (Op.equalIn (d + 1) t (.pointer none) (.pointer none)).run P w = .ok true w := by
  simp [Op.equalIn, run_underlying h]
/-- Floats are equal by floatEq. -/
theorem run_eqfloat {P : Program} (w : World) (d : Nat) (t : TypeId) (k' k : FloatKind) (a b : Nat) (h : P.underlying t = some (.float k')) : (Op.equalIn (d + 1) t (.float k a) (.float k b)).run P w = .ok (Op.floatEq k a b) w := by
  simp [Op.equalIn, run_underlying h]
attribute [local go_sem] run_eqptr run_eqfloat

theorem neq34 (w : World) (a b : Int) : (binOp .neq 34 (.agg #[.int .u64 a, .int .i64 b, .pointer none]) (.agg #[.int .u64 a, .int .i64 b, .pointer none])).run Try.prog w = .ok (.bool false) w := by
  simp [go_sem, Try.underlying34, Program.fieldsOf]
theorem neq52 (w : World) (n a b : Int) (s t u : ByteArray) : (binOp .neq 52 (.agg #[.int .i64 n, .string s, .int .u64 a, .int .i64 b, .pointer none, .string t, .string u]) (.agg #[.int .i64 n, .string s, .int .u64 a, .int .i64 b, .pointer none, .string t, .string u])).run Try.prog w = .ok (.bool false) w := by
  simp [go_sem, Try.underlying34, Try.underlying52, Program.fieldsOf]
theorem neq54 (w : World) (n a b : Int) (s t u : ByteArray) (f : Nat) (hf : Op.floatEq .f64 f f = true) : (binOp .neq 54 (.agg #[.int .i64 n, .string s, .int .u64 a, .int .i64 b, .pointer none, .string t, .string u, .float .f64 f]) (.agg #[.int .i64 n, .string s, .int .u64 a, .int .i64 b, .pointer none, .string t, .string u, .float .f64 f])).run Try.prog w = .ok (.bool false) w := by
  simp [go_sem, Try.underlying34, Try.underlying52, Try.underlying54, Program.fieldsOf, hf]
theorem neq23 (w : World) (f : Nat) (hf : Op.floatEq .f64 f f = true) : (binOp .neq 23 (.float .f64 f) (.float .f64 f)).run Try.prog w = .ok (.bool false) w := by
  have h : FloatKind.f64.format.order f f = some .eq := by
    unfold Op.floatEq at hf
    simpa using hf
  simp [binOp, Op.floatCmp, h]
end Go.Proofs.Qxb6628314a
