/-
  The closed facts of the row of 'FnIntegerReplyDistinctAndSized', each by the kernel, one by one (all at once outgrow the memory lid).
-/
import Derived.Test.Qxb6616140aDoorRows
import Derived.JoinedOf
import Derived.KernelRfl
namespace Go.Proofs.Qxb6616140aDoor
set_option maxHeartbeats 0 in
theorem closed_facts : joinedFacts Tryd.pinned.checked.prog 4 Tryd.f4 Rows.fnIntegerReplyDistinctAndSizedSpec Rows.fnIntegerReplyDistinctAndSizedRow = true := by
  unfold joinedFacts
  simp only [Bool.and_eq_true]
  repeat' (apply And.intro)
  all_goals (as_aux_lemma => kernel_rfl)
end Go.Proofs.Qxb6616140aDoor
