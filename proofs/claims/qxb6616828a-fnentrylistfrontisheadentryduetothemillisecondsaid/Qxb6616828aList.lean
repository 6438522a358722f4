/-
  'zzListOKB1': what a 'true' says of the five arguments.
-/
import Derived.Test.Qxb6616828aSizes
import Derived.Lib.Hide
namespace Go.Proofs.Qxb6616828a
open Go.RowKit

/-- The five arguments are of one shape; the first block is long enough. -/
structure ListOK (n0 n1 n2 n3 n4 : Nat) (L0 L1 L2 L3 L4 : Nat → Nat) (head n m : Int) : Prop where
  pos : 1 ≤ n0
  e1 : n1 = n0
  e2 : n2 = n0
  e3 : n3 = n0
  e4 : n4 = n0
  rows : ∀ r, r < n0 → L1 r = L0 r ∧ L2 r = L0 r ∧ L3 r = L0 r ∧ L4 r = L0 r ∧ L0 r ≤ 4096
  head0 : 0 ≤ head
  headm : head + m ≤ L0 0
  nm : m ≤ n

theorem rows_step {L0 L1 L2 L3 L4 : Nat → Nat} {k : Nat} (h : Hid (∀ r, r < k → L1 r = L0 r ∧ L2 r = L0 r ∧ L3 r = L0 r ∧ L4 r = L0 r ∧ L0 r ≤ 4096))
    (hk : L1 k = L0 k ∧ L2 k = L0 k ∧ L3 k = L0 k ∧ L4 k = L0 k ∧ L0 k ≤ 4096) : ∀ r, r < k + 1 → L1 r = L0 r ∧ L2 r = L0 r ∧ L3 r = L0 r ∧ L4 r = L0 r ∧ L0 r ≤ 4096 := fun r hr => by
  rcases Nat.lt_or_ge r k with h1 | h1
  · exact h.out r h1
  · obtain rfl : r = k := by omega
    exact hk

set_option maxHeartbeats 2000000 in
set_option maxRecDepth 100000 in
theorem list_any (w : World) (o0 o1 o2 o3 o4 : Option Addr) (n0 n1 n2 n3 n4 c0 c1 c2 c3 c4 : Nat) (A0 A1 A2 A3 A4 : Nat → Option Addr) (L0 L1 L2 L3 L4 C0 C1 C2 C3 C4 : Nat → Nat) (head n m : Int)
    (h0 : Tops w o0 n0 A0 L0 C0) (h1 : Tops w o1 n1 A1 L1 C1) (h2 : Tops w o2 n2 A2 L2 C2) (h3 : Tops w o3 n3 A3 L3 C3) (h4 : Tops w o4 n4 A4 L4 C4) (hs : Small n0 L0)
    (hd : -9223372036854775808 ≤ head ∧ head ≤ 9223372036854775807) (hn : -9223372036854775808 ≤ n ∧ n ≤ 9223372036854775807) (hm : 1 ≤ m ∧ m ≤ 2) :
    Calls Try.prog 7 #[.slice o0 n0 c0, .slice o1 n1 c1, .slice o2 n2 c2, .slice o3 n3 c3, .slice o4 n4 c4, .int .i64 head, .int .i64 n, .int .i64 m] w fun e w' =>
      (e = .returned (.bool false) ∨ (e = .returned (.bool true) ∧ ListOK n0 n1 n2 n3 n4 L0 L1 L2 L3 L4 head n m)) ∧ w' = w := by
  have l0 := h0.len
  have l1 := h1.len
  have l2 := h2.len
  have l3 := h3.len
  have l4 := h4.len
  have hs1 := hs.1
  clear hs
  by_cases z0 : n0 = 0
  · have zb : ((n0 : Int) == 0) = true := by simp [z0]
    clear z0
    go_enter Try.func7, Try.ntmps7
    go_wp2
    go_ret
    exact ⟨Or.inl rfl, rfl⟩
  have zb : ((n0 : Int) == 0) = false := by rw [beq_eq_false_iff_ne]; omega
  by_cases z1 : n1 = n0
  case neg =>
    have nb : ((n1 : Int) != (n0 : Int)) = true := by rw [bne_iff_ne]; omega
    clear z1
    go_enter Try.func7, Try.ntmps7
    go_wp2
    go_ret
    exact ⟨Or.inl rfl, rfl⟩
  subst n1
  by_cases z2 : n2 = n0
  case neg =>
    have nb : ((n2 : Int) != (n0 : Int)) = true := by rw [bne_iff_ne]; omega
    clear z2
    go_enter Try.func7, Try.ntmps7
    go_wp2
    go_ret
    exact ⟨Or.inl rfl, rfl⟩
  subst n2
  by_cases z3 : n3 = n0
  case neg =>
    have nb : ((n3 : Int) != (n0 : Int)) = true := by rw [bne_iff_ne]; omega
    clear z3
    go_enter Try.func7, Try.ntmps7
    go_wp2
    go_ret
    exact ⟨Or.inl rfl, rfl⟩
  subst n3
  by_cases z4 : n4 = n0
  case neg =>
    have nb : ((n4 : Int) != (n0 : Int)) = true := by rw [bne_iff_ne]; omega
    clear z4
    go_enter Try.func7, Try.ntmps7
    go_wp2
    go_ret
    exact ⟨Or.inl rfl, rfl⟩
  subst n4
  clear l1 l2 l3 l4
  go_enter Try.func7, Try.ntmps7
  go_wp2
  go_loop [18, 19] (fun t i => ∃ (k : Nat) (x : Int), k ≤ n0 ∧ i = .int .i64 k ∧ t = .int .i64 x ∧ 0 ≤ x ∧ x ≤ 4096 * k ∧ ∀ r, r < k → L1 r = L0 r ∧ L2 r = L0 r ∧ L3 r = L0 r ∧ L4 r = L0 r ∧ L0 r ≤ 4096) (fun _ i => n0 - (intOf i).toNat)
  case atStart => exact ⟨0, _, Nat.zero_le _, rfl, rfl, by omega, by omega, fun r hr => by omega⟩
  case round =>
    obtain ⟨k, x, hk, rfl, rfl, hx0, hx1, hL⟩ := hrel
    have HL : Hid (∀ r, r < k → L1 r = L0 r ∧ L2 r = L0 r ∧ L3 r = L0 r ∧ L4 r = L0 r ∧ L0 r ≤ 4096) := hL
    clear hL
    by_cases hlt : k < n0
    case pos =>
      obtain ⟨b0, f0, rfl, hc0⟩ := h0.top k hlt
      obtain ⟨b1, f1, rfl, hc1⟩ := h1.top k hlt
      obtain ⟨b2, f2, rfl, hc2⟩ := h2.top k hlt
      obtain ⟨b3, f3, rfl, hc3⟩ := h3.top k hlt
      obtain ⟨b4, f4, rfl, hc4⟩ := h4.top k hlt
      have r0 := h0.row k hlt
      have r1 := h1.row k hlt
      have r2 := h2.row k hlt
      have r3 := h3.row k hlt
      have r4 := h4.row k hlt
      clear h0 h1 h2 h3 h4
      by_cases y1 : L1 k = L0 k
      case neg =>
        have nb : ((L1 k : Int) != (L0 k : Int)) = true := by rw [bne_iff_ne]; omega
        clear y1
        go_wp2
        go_ret
        exact ⟨Or.inl rfl, rfl⟩
      have Y1 : Hid (L1 k = L0 k) := y1
      have b1e : ((L1 k : Int) != (L0 k : Int)) = false := by rw [bne_eq_false_iff_eq]; omega
      clear y1
      by_cases y2 : L2 k = L0 k
      case neg =>
        have nb : ((L2 k : Int) != (L0 k : Int)) = true := by rw [bne_iff_ne]; omega
        clear y2
        go_wp2
        go_ret
        exact ⟨Or.inl rfl, rfl⟩
      have Y2 : Hid (L2 k = L0 k) := y2
      have b2e : ((L2 k : Int) != (L0 k : Int)) = false := by rw [bne_eq_false_iff_eq]; omega
      clear y2
      by_cases y3 : L3 k = L0 k
      case neg =>
        have nb : ((L3 k : Int) != (L0 k : Int)) = true := by rw [bne_iff_ne]; omega
        clear y3
        go_wp2
        go_ret
        exact ⟨Or.inl rfl, rfl⟩
      have Y3 : Hid (L3 k = L0 k) := y3
      have b3e : ((L3 k : Int) != (L0 k : Int)) = false := by rw [bne_eq_false_iff_eq]; omega
      clear y3
      by_cases y4 : L4 k = L0 k
      case neg =>
        have nb : ((L4 k : Int) != (L0 k : Int)) = true := by rw [bne_iff_ne]; omega
        clear y4
        go_wp2
        go_ret
        exact ⟨Or.inl rfl, rfl⟩
      have Y4 : Hid (L4 k = L0 k) := y4
      have b4e : ((L4 k : Int) != (L0 k : Int)) = false := by rw [bne_eq_false_iff_eq]; omega
      clear y4
      by_cases y5 : L0 k ≤ 4096
      case neg =>
        go_wp2
        go_ret
        exact ⟨Or.inl rfl, rfl⟩
      by_cases y6 : k < n0 - 1
      case pos =>
        by_cases y7 : L0 k = 4096
        case neg =>
          have nb : ((L0 k : Int) != 4096) = true := by rw [bne_iff_ne]; omega
          clear y7
          go_wp2
          go_ret
          exact ⟨Or.inl rfl, rfl⟩
        have nb : ((L0 k : Int) != 4096) = false := by rw [bne_eq_false_iff_eq]; omega
        clear y7
        go_wp2
        go_round
        case rel => exact ⟨k + 1, _, by omega, by go_num, rfl, by omega, by omega, rows_step HL ⟨Y1.out, Y2.out, Y3.out, Y4.out, y5⟩⟩
        case measure => simp [intOf]; omega
      go_wp2
      go_round
      case rel => exact ⟨k + 1, _, by omega, by go_num, rfl, by omega, by omega, rows_step HL ⟨Y1.out, Y2.out, Y3.out, Y4.out, y5⟩⟩
      case measure => simp [intOf]; omega
    obtain ⟨b0, f0, rfl, hc0⟩ := h0.top 0 (by omega)
    rw [Nat.add_zero] at hc0
    have r0 := h0.row 0 (by omega)
    have Z : ∀ r, r < n0 → L1 r = L0 r ∧ L2 r = L0 r ∧ L3 r = L0 r ∧ L4 r = L0 r ∧ L0 r ≤ 4096 := fun r hr => HL.out r (by omega)
    have hl4 := (Z 0 (by omega)).2.2.2.2
    have HZ := Lib.hid Z
    clear h0 h1 h2 h3 h4 Z HL
    by_cases q0 : head < 0
    · go_wp2
      go_ret
      exact ⟨Or.inl rfl, rfl⟩
    by_cases q1 : 4096 ≤ head
    · go_wp2
      go_ret
      exact ⟨Or.inl rfl, rfl⟩
    by_cases q2 : (L0 0 : Int) - m < head
    · go_wp2
      go_ret
      exact ⟨Or.inl rfl, rfl⟩
    by_cases q3 : n < m
    · go_wp2
      go_ret
      exact ⟨Or.inl rfl, rfl⟩
    have fin : Hid (ListOK n0 n0 n0 n0 n0 L0 L1 L2 L3 L4 head n m) := ⟨by omega, rfl, rfl, rfl, rfl, HZ.out, by omega, by omega, by omega⟩
    by_cases q4 : x - head < n
    · go_wp2
      go_ret
      exact ⟨Or.inl rfl, rfl⟩
    go_wp2
    go_ret
    exact ⟨Or.inr ⟨rfl, fin.out⟩, rfl⟩
end Go.Proofs.Qxb6616828a
