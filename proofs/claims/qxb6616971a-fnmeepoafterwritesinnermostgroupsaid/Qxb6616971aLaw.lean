/-
  THE LAW's WALK: 'FnMeepoAfterWritesInnermostGroup' returns true.
-/
import Derived.Test.Qxb6616971aAfter
import Derived.Laws.IdiomStrings
namespace Go.Proofs.Qxb6616971a
open Go.RowKit

set_option maxHeartbeats 400000 in
theorem bytes_any (keep : Bool) (s1 s2 s3 s4 : ByteArray) (w : World) (m1 : s1.size ≤ maxLen) (m2 : s2.size ≤ maxLen) (m3 : s3.size ≤ maxLen) (m4 : s4.size ≤ maxLen) :
    Calls Try.prog 4 #[.bool keep, .string s1, .string s2, .string s3, .string s4] w fun e w' => ∃ b : Bool, e = .returned (.bool b) ∧ w' = w := by
  unfold maxLen at m1 m2 m3 m4
  go_enter Try.func4, Try.ntmps4
  go_wp2
  all_goals
    go_ret
    exact ⟨_, rfl, rfl⟩

theorem cells_str (s : ByteArray) : Lib.strCells s = Lib.byteCells s.data.toList := by
  simp [Lib.strCells, Lib.byteCells]
theorem cells_two (s t : ByteArray) : Lib.strCells s ++ Lib.strCells t = Lib.byteCells (s ++ t).data.toList := by
  simp [Lib.strCells, Lib.byteCells]

set_option maxHeartbeats 1000000 in
set_option maxRecDepth 100000 in
theorem law_big (keep : Bool) (s1 s2 s3 s4 : ByteArray) (w : World) (m1 : s1.size ≤ maxLen) (m2 : s2.size ≤ maxLen) (m3 : s3.size ≤ maxLen) (m4 : s4.size ≤ maxLen) (hb : ¬ (s1.size ≤ 262144 ∧ s2.size ≤ 262144 ∧ s3.size ≤ 262144 ∧ s4.size ≤ 262144)) :
    Calls Try.prog 3 #[.bool keep, .string s1, .string s2, .string s3, .string s4] w fun e w' => e = .returned (.bool true) ∧ w' = w := by
  have Bz := Lib.hid (bytes_any keep s1 s2 s3 s4 w m1 m2 m3 m4)
  unfold maxLen at m1 m2 m3 m4
  by_cases h1 : s1.size ≤ 262144
  case neg =>
    clear hb
    go_enter Try.func3, Try.ntmps3
    go_wp2_with fail
    refine Bz.out.mono ?_
    rintro e w' ⟨b, rfl, hw⟩
    subst w'
    cases b <;> (go_wp2; go_ret; exact ⟨rfl, rfl⟩)
  by_cases h2 : s2.size ≤ 262144
  case neg =>
    clear hb
    go_enter Try.func3, Try.ntmps3
    go_wp2_with fail
    refine Bz.out.mono ?_
    rintro e w' ⟨b, rfl, hw⟩
    subst w'
    cases b <;> (go_wp2; go_ret; exact ⟨rfl, rfl⟩)
  by_cases h3 : s3.size ≤ 262144
  case neg =>
    clear hb
    go_enter Try.func3, Try.ntmps3
    go_wp2_with fail
    refine Bz.out.mono ?_
    rintro e w' ⟨b, rfl, hw⟩
    subst w'
    cases b <;> (go_wp2; go_ret; exact ⟨rfl, rfl⟩)
  have h4 : ¬ s4.size ≤ 262144 := fun h => hb ⟨h1, h2, h3, h⟩
  clear hb
  go_enter Try.func3, Try.ntmps3
  go_wp2_with fail
  refine Bz.out.mono ?_
  rintro e w' ⟨b, rfl, hw⟩
  subst w'
  cases b <;> (go_wp2; go_ret; exact ⟨rfl, rfl⟩)
end Go.Proofs.Qxb6616971a
