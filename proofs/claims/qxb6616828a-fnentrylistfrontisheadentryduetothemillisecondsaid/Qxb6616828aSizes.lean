/-
  The size checks of both laws: what they answer, and what a 'true' says of the lengths. Each only reads.
-/
import Derived.Test.Qxb6616828aProg
import Derived.WalkKit
import Derived.WalkSpells
namespace Go.Proofs.Qxb6616828a
open Go.RowKit

/-- A slice of slices of numbers as the walks see it: outer slice '.slice ao n cap', row r a slice '.slice (A r) (L r) (C r)'. -/
structure Tops (w : World) (ao : Option Addr) (n : Nat) (A : Nat → Option Addr) (L C : Nat → Nat) : Prop where
  len : n ≤ 9223372036854775807
  row : ∀ r, r < n → L r ≤ 9223372036854775807
  top : ∀ r, r < n → ∃ b off, ao = some ⟨b, off, none⟩ ∧ w.cell? ⟨b, off + r, none⟩ = some (.slice (A r) (L r) (C r))

theorem Tops.at {w : World} {b off n : Nat} {A : Nat → Option Addr} {L C : Nat → Nat} (h : Tops w (some ⟨b, off, none⟩) n A L C) (r : Nat) (hr : r < n) : w.cell? ⟨b, off + r, none⟩ = some (.slice (A r) (L r) (C r)) := by
  obtain ⟨b', off', e, hc⟩ := h.top r hr
  cases e
  exact hc

/-- All lengths of one argument are small. -/
def Small (n : Nat) (L : Nat → Nat) : Prop := n ≤ 1048576 ∧ ∀ r, r < n → L r ≤ 1048576

set_option maxHeartbeats 400000 in
/-- 'zzAddB1': it returns some sum. -/
theorem add_any (w : World) (s : Int) (ao : Option Addr) (n cap : Nat) (A : Nat → Option Addr) (L C : Nat → Nat) (h : Tops w ao n A L C) (hsm : Small n L) (h0 : 0 ≤ s) (h1 : s ≤ 16777216) :
    Calls Try.prog 13 #[.int .i64 s, .slice ao n cap] w fun e w' => ∃ s' : Int, e = .returned (.int .i64 s') ∧ 0 ≤ s' ∧ s' ≤ 16777216 ∧ w' = w := by
  have hn := hsm.1
  by_cases hs : s ≤ 1048576
  · go_enter Try.func13, Try.ntmps13
    go_wp2
    go_loop [0, 5] (fun t i => ∃ (k : Nat) (x : Int), k ≤ n ∧ i = .int .i64 k ∧ t = .int .i64 x ∧ 0 ≤ x ∧ x ≤ 16777216) (fun _ i => n - (intOf i).toNat)
    case atStart => exact ⟨0, _, Nat.zero_le _, rfl, rfl, by omega, by omega⟩
    case round =>
      obtain ⟨k, x, hk, rfl, rfl, hx0, hx1⟩ := hrel
      by_cases hlt : k < n
      · obtain ⟨b, off, rfl, hc⟩ := h.top k hlt
        have hL := hsm.2 k hlt
        clear h hsm
        by_cases hx : x ≤ 1048576
        · go_wp2
          go_round
          case rel => exact ⟨k + 1, _, by omega, by go_num, rfl, by omega, by omega⟩
          case measure => simp [intOf]; omega
        · go_wp2
          go_ret
          exact ⟨_, rfl, hx0, hx1, rfl⟩
      · go_wp2
        go_ret
        exact ⟨_, rfl, hx0, hx1, rfl⟩
  · go_enter Try.func13, Try.ntmps13
    go_wp2
    go_ret
    exact ⟨_, rfl, h0, h1, rfl⟩

set_option maxHeartbeats 400000 in
/-- 'zzTooBigB1': it answers. -/
theorem big_any (w : World) (o0 o1 o2 o3 o4 : Option Addr) (n0 n1 n2 n3 n4 c0 c1 c2 c3 c4 : Nat) (A0 A1 A2 A3 A4 : Nat → Option Addr) (L0 L1 L2 L3 L4 C0 C1 C2 C3 C4 : Nat → Nat)
    (h0 : Tops w o0 n0 A0 L0 C0) (h1 : Tops w o1 n1 A1 L1 C1) (h2 : Tops w o2 n2 A2 L2 C2) (h3 : Tops w o3 n3 A3 L3 C3) (h4 : Tops w o4 n4 A4 L4 C4)
    (s0 : Small n0 L0) (s1 : Small n1 L1) (s2 : Small n2 L2) (s3 : Small n3 L3) (s4 : Small n4 L4) :
    Calls Try.prog 6 #[.slice o0 n0 c0, .slice o1 n1 c1, .slice o2 n2 c2, .slice o3 n3 c3, .slice o4 n4 c4] w fun e w' => ∃ b : Bool, e = .returned (.bool b) ∧ w' = w := by
  go_enter Try.func6, Try.ntmps6
  go_wp2_with fail
  refine (add_any w 0 o0 n0 c0 A0 L0 C0 h0 s0 (by omega) (by omega)).mono ?_
  rintro e w' ⟨x0, rfl, p0, q0, hw⟩
  subst w'
  go_wp2_with fail
  refine (add_any w x0 o1 n1 c1 A1 L1 C1 h1 s1 (by omega) (by omega)).mono ?_
  rintro e w' ⟨x1, rfl, p1, q1, hw⟩
  subst w'
  go_wp2_with fail
  refine (add_any w x1 o2 n2 c2 A2 L2 C2 h2 s2 (by omega) (by omega)).mono ?_
  rintro e w' ⟨x2, rfl, p2, q2, hw⟩
  subst w'
  go_wp2_with fail
  refine (add_any w x2 o3 n3 c3 A3 L3 C3 h3 s3 (by omega) (by omega)).mono ?_
  rintro e w' ⟨x3, rfl, p3, q3, hw⟩
  subst w'
  go_wp2_with fail
  refine (add_any w x3 o4 n4 c4 A4 L4 C4 h4 s4 (by omega) (by omega)).mono ?_
  rintro e w' ⟨x4, rfl, p4, q4, hw⟩
  subst w'
  go_wp2
  go_ret
  exact ⟨_, rfl, rfl⟩
end Go.Proofs.Qxb6616828a
