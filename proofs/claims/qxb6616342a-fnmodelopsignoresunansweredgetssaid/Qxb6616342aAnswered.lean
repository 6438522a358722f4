/-
  'operation.answered': it makes a variable of its own and says whether the return is not -1.
-/
import Derived.Test.Qxb6616342aAppend
namespace Go.Proofs.Qxb6616342a
open Go.RowKit

theorem answered_any (x0 : Int) (x1 : Bool) (x2 : ByteArray) (x3 x4 x5 : Int) (w : World) :
    Calls Try.prog 10 #[.agg #[.int .i64 x0, .bool x1, .string x2, .int .i64 x3, .int .i64 x4, .int .i64 x5]] w fun e w' => e = .returned (.bool (x5 != -1)) ∧ w' = w.alloc (.cells #[.int .i64 x0, .bool x1, .string x2, .int .i64 x3, .int .i64 x4, .int .i64 x5] 48) := by
  go_enter Try.func10, Try.ntmps10
  go_wp2
  go_ret
  exact ⟨rfl, rfl⟩
end Go.Proofs.Qxb6616342a
