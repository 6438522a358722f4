/-
  THE TIED CARD of 'FnIntegerReplyDistinctAndSized': the proved row, its three listed tables tied to the program's text by the given tie.
-/
import Derived.Test.Qxb6616140aDoorRow
import Derived.Test.Qxb6616140aDoorTie
import Derived.Test.Qxb6616140aDoorCards
import Derived.SevenTiedAt
namespace Go.Proofs.Qxb6616140aDoor
open Go

theorem params_stand (j : Nat) (t : TypeId) (ht : Tryd.f4.params[j]? = some t) : Tryd.prog.wantsStandIn t = false := by
  rw [Tryd.params4] at ht
  have hm : t ∈ [2, 2] := by simpa using Array.mem_of_getElem? ht
  have h2 : Tryd.prog.wantsStandIn 2 = false := by kernel_rfl
  simp at hm
  subst hm
  exact h2

set_option maxHeartbeats 0 in
theorem card_proved : Rows.FnIntegerReplyDistinctAndSizedCardSaid :=
  Claim7.holds_tied_plain_at .later [] [.data, .data, .data] true (true, "d0ef90dc1d3d7785b820637c6fcdc2144910aa4fbaba3b1bb45cab5739514cc5") true
    row_holds (fun _ h => by cases h) (by as_aux_lemma => kernel_rfl) (fun _ h => by cases h) fnIntegerReplyDistinctAndSized_row_tie rfl ⟨rfl, rfl⟩ (by as_aux_lemma => kernel_rfl) rfl
    (fun f fn hf hfn => by
      obtain rfl : f = 4 := Option.some.inj ((show Tryd.prog.funcNamed Rows.fnIntegerReplyDistinctAndSizedRow.func = some 4 by kernel_rfl).symm.trans hf) |>.symm
      obtain rfl : fn = Tryd.f4 := (Option.some.inj (Tryd.func4.symm.trans hfn)).symm
      exact ⟨by as_aux_lemma => kernel_rfl, params_stand⟩)
    (by as_aux_lemma => kernel_rfl)
end Go.Proofs.Qxb6616140aDoor
