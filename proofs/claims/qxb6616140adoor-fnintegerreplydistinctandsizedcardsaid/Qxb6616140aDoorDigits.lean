import Derived.Test.Qxb6616140aDoorProg
import Derived.Test.Qxb6616140aDoorPlain
import Derived.WalkKit
import Derived.WalkSpells
namespace Go.Proofs.Qxb6616140aDoor
open Go.RowKit

theorem wrap_neg (n : Int) (h0 : -9223372036854775808 ≤ n) (h1 : n < 0) : IntKind.u64.wrap (-IntKind.u64.wrap n) = ((n.natAbs : Nat) : Int) := by
  simp only [IntKind.wrap_u64]
  omega

theorem ret_int {k : IntKind} {a b : Int} (h : a = b) : Ending.returned (.int k a) = .returned (.int k b) := by rw [h]

set_option maxHeartbeats 400000 in
/-- 'decimalDigits': how many decimal digits the number has, its sign not counted. -/
theorem digits_any (n : Int) (w : World) (h0 : -9223372036854775808 ≤ n) (h1 : n ≤ 9223372036854775807) :
    Calls Tryd.prog 34 #[.int .i64 n] w fun e w' => e = .returned (.int .i64 ((Lib.nDigits n.natAbs : Nat) : Int)) ∧ w' = w := by
  have hd20 := Lib.nDigits_le20 n.natAbs (by omega)
  by_cases hn : n < 0
  all_goals
    go_enter Tryd.func34, Tryd.ntmps34
    go_wp2
    go_loop [3, 4] (fun u d => ∃ x k : Nat, u = .int .u64 x ∧ d = .int .i64 k ∧ x < 18446744073709551616 ∧ 1 ≤ k ∧ k + Lib.nDigits x = 1 + Lib.nDigits n.natAbs) (fun u _ => (intOf u).toNat)
    case atStart => first | exact ⟨n.natAbs, 1, by rw [wrap_neg n h0 hn], rfl, by omega, by omega, rfl⟩ | exact ⟨n.natAbs, 1, by rw [show ((n.natAbs : Nat) : Int) = n by omega], rfl, by omega, by omega, rfl⟩
    case round =>
      obtain ⟨x, k, rfl, rfl, hx, hk, he⟩ := hrel
      have HE : Hid (k + Lib.nDigits x = 1 + Lib.nDigits n.natAbs) := he
      have hp := Lib.nDigits_pos x
      have hk20 : k ≤ 20 := by omega
      clear he
      by_cases hlt : x < 10
      · have hx9 : (x : Int) < 10 := by omega
        go_wp2
        go_ret
        refine ⟨ret_int ?_, rfl⟩
        have := HE.out
        rw [Lib.nDigits_small hlt] at this
        omega
      · have hx9 : (10 : Int) ≤ x := by omega
        go_wp2
        go_round
        case rel =>
          refine ⟨x / 10, k + 1, by go_num, by go_num, by omega, by omega, ?_⟩
          have := HE.out
          rw [Lib.nDigits_big hlt] at this
          omega
        case measure => simp [intOf]; omega

set_option maxHeartbeats 400000 in
/-- 'replyLen': three more than the decimal text is long. -/
theorem replyLen_any (n : Int) (w : World) (h0 : -9223372036854775808 ≤ n) (h1 : n ≤ 9223372036854775807) :
    Calls Tryd.prog 15 #[.int .i64 n] w fun e w' => e = .returned (.int .i64 (((reply n).length : Nat) : Int)) ∧ w' = w := by
  have hd20 := Lib.nDigits_le20 n.natAbs (by omega)
  have H : Hid ((reply n).length = 3 + (Lib.nDigits n.natAbs + (if n < 0 then 1 else 0))) := by rw [reply_len, itoa_len]; rfl
  by_cases hn : n < 0
  all_goals
    go_enter Tryd.func15, Tryd.ntmps15
    go_wp2_with (go_at_call 34; refine (digits_any _ _ h0 h1).mono ?_; rintro e w' ⟨rfl, rfl⟩)
    go_ret
    refine ⟨ret_int ?_, rfl⟩
    rw [H.out]
    first | rw [if_pos hn] | rw [if_neg (by omega)]
    omega
end Go.Proofs.Qxb6616140aDoor
