/-
  The arithmetic of a packed word, with no program in sight.
-/
import Derived.WalkKit
import Derived.WalkLawsBesides
namespace Go.Proofs.Qxb6616828a
open Go.RowKit

/-- The 64-bit word out of its two halves. -/
def keyOf (hi lo : Int) : Int := hi * 4294967296 + lo

theorem keyOf_bd {hi lo : Int} (h0 : 0 ≤ hi) (h1 : hi ≤ 4294967295) (l0 : 0 ≤ lo) (l1 : lo ≤ 4294967295) : 0 ≤ keyOf hi lo ∧ keyOf hi lo ≤ 18446744073709551615 := by
  unfold keyOf; omega

theorem or_key (hi lo : Int) (h0 : 0 ≤ hi) (h1 : hi ≤ 4294967295) (l0 : 0 ≤ lo) (l1 : lo ≤ 4294967295) : bits .or .u64 (hi * 4294967296) lo = keyOf hi lo := by
  obtain ⟨a, rfl⟩ := Int.eq_ofNat_of_zero_le h0
  obtain ⟨b, rfl⟩ := Int.eq_ofNat_of_zero_le l0
  have e : ((a : Int) * 4294967296) = ((a * 4294967296 : Nat) : Int) := by omega
  rw [e, bits_or_u64_nat _ _ (by omega) (by omega)]
  have h := Nat.shiftLeft_add_eq_or_of_lt (i := 32) (b := b) (by omega) a
  rw [Nat.shiftLeft_eq, show (2 : Nat) ^ 32 = 4294967296 by rfl] at h
  rw [← h]
  unfold keyOf
  omega

theorem and_mask (k : Int) (h0 : 0 ≤ k) (h1 : k ≤ 18446744073709551615) : bits .and .u64 k 65535 = k % 65536 := by
  obtain ⟨a, rfl⟩ := Int.eq_ofNat_of_zero_le h0
  rw [show (65535 : Int) = ((65535 : Nat) : Int) by rfl, bits_and_u64_nat _ _ (by omega) (by omega)]
  have h := Nat.and_two_pow_sub_one_eq_mod a 16
  rw [show (2 : Nat) ^ 16 = 65536 by rfl, show (65536 : Nat) - 1 = 65535 by rfl] at h
  rw [h]
  omega

/-- The due time, in nanoseconds, of a millisecond count. -/
def dueOf (ms : Int) : Int := (if ms ≤ 9223372036854 then ms else 9223372036854) * 1000000

theorem dueOf_bd {ms : Int} (h : 0 ≤ ms) : 0 ≤ dueOf ms ∧ dueOf ms ≤ 9223372036854000000 := by
  unfold dueOf; split <;> omega
theorem dueOf_small {ms : Int} (h : ms ≤ 9223372036854) : dueOf ms = ms * 1000000 := by unfold dueOf; rw [if_pos h]
theorem dueOf_big {ms : Int} (h : ¬ ms ≤ 9223372036854) : dueOf ms = 9223372036854000000 := by unfold dueOf; rw [if_neg h]; rfl
theorem dueOf_mono {a b : Int} (h : a ≤ b) : dueOf a ≤ dueOf b := by
  unfold dueOf; split <;> split <;> omega
theorem dueOf_strict {a b : Int} (h : a < b) (ha : a < 9223372036854) : dueOf a < dueOf b := by
  unfold dueOf; split <;> split <;> omega
theorem dueOf_dist {a b : Int} (ha : a ≤ 9223372036854) (hb : b ≤ 9223372036854) : dueOf b - dueOf a = (b - a) * 1000000 := by
  rw [dueOf_small ha, dueOf_small hb]; omega
end Go.Proofs.Qxb6616828a
