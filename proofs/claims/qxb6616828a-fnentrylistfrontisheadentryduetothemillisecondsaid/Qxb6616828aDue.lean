/-
  'zzDueIsB1' at the due time of a millisecond count.
-/
import Derived.Test.Qxb6616828aFront
namespace Go.Proofs.Qxb6616828a
open Go.RowKit

set_option maxHeartbeats 400000 in
theorem dueIs_any (ms : Int) (w : World) (h0 : 0 ≤ ms) (h1 : ms ≤ 281474976710655) :
    Calls Try.prog 11 #[.int .i64 (dueOf ms), .int .u64 ms] w fun e w' => e = .returned (.bool true) ∧ w' = w := by
  have bd := dueOf_bd h0
  by_cases hs : ms ≤ 9223372036854
  · have hd := dueOf_small hs
    generalize dueOf ms = d at *
    have d1 : d % 1000000 = 0 := by omega
    have d2 : d / 1000000 = ms := by omega
    have e1 : (ms == ms) = true := by simp
    clear hd
    go_enter Try.func11, Try.ntmps11
    go_wp2
    go_ret
    exact ⟨rfl, rfl⟩
  · have hd := dueOf_big hs
    generalize dueOf ms = d at *
    have d1 : d % 1000000 = 0 := by omega
    have d2 : d / 1000000 = 9223372036854 := by omega
    have d3 : 9223372036853775807 < d := by omega
    have e1 : ((9223372036854 : Int) == ms) = false := by rw [beq_eq_false_iff_ne]; omega
    clear hd
    go_enter Try.func11, Try.ntmps11
    go_wp2
    go_ret
    exact ⟨rfl, rfl⟩
end Go.Proofs.Qxb6616828a
