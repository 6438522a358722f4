import Derived.Test.Qxb6616342aProg
import Derived.WalkKit
namespace Go.Proofs.Qxb6616342a
theorem assert40 (v : Value) (w : World) : (Instr.typeAssert (.iface 40 v) 20 40 false).run Try.prog w = .ok v w := by
  rfl
theorem assert3 (v : Value) (w : World) : (Instr.typeAssert (.iface 3 v) 20 3 true).run Try.prog w = .ok (.tuple #[v, .bool true]) w := by
  rfl
theorem assertNil (w : World) : (Instr.typeAssert .nilIface 20 3 true).run Try.prog w = .ok (.tuple #[.int .i64 0, .bool false]) w := by
  rfl
end Go.Proofs.Qxb6616342a
