/-
  'zzBytes_..': the bound on total length that the laws open with: two functions of one text.
-/
import Derived.Test.Qxb6616828aSizes
namespace Go.Proofs.Qxb6616828a
open Go.RowKit

theorem small_step {L : Nat → Nat} {k : Nat} (h : Hid (∀ r, r < k → L r ≤ 1048576)) (hk : L k ≤ 1048576) : ∀ r, r < k + 1 → L r ≤ 1048576 := fun r hr => by
  rcases Nat.lt_or_ge r k with h1 | h1
  · exact h.out r h1
  · obtain rfl : r = k := by omega
    exact hk

set_option maxHeartbeats 2000000 in
set_option maxRecDepth 100000 in
/-- function 12: it answers; where it says true, every length is at most 2^20. -/
theorem bytes12_any (w : World) (o0 o1 o2 o3 o4 : Option Addr) (n0 n1 n2 n3 n4 c0 c1 c2 c3 c4 : Nat) (A0 A1 A2 A3 A4 : Nat → Option Addr) (L0 L1 L2 L3 L4 C0 C1 C2 C3 C4 : Nat → Nat) (x y : Int)
    (h0 : Tops w o0 n0 A0 L0 C0) (h1 : Tops w o1 n1 A1 L1 C1) (h2 : Tops w o2 n2 A2 L2 C2) (h3 : Tops w o3 n3 A3 L3 C3) (h4 : Tops w o4 n4 A4 L4 C4) :
    Calls Try.prog 12 #[.slice o0 n0 c0, .slice o1 n1 c1, .slice o2 n2 c2, .slice o3 n3 c3, .slice o4 n4 c4, .int .i64 x, .int .i64 y] w fun e w' => (e = .returned (.bool false) ∨ (e = .returned (.bool true) ∧ Small n0 L0 ∧ Small n1 L1 ∧ Small n2 L2 ∧ Small n3 L3 ∧ Small n4 L4)) ∧ w' = w := by
  have l0 := h0.len
  have l1 := h1.len
  have l2 := h2.len
  have l3 := h3.len
  have l4 := h4.len
  go_enter Try.func12, Try.ntmps12
  by_cases m0 : n0 ≤ 1048576
  case neg =>
    go_wp2
    go_ret
    exact ⟨Or.inl rfl, rfl⟩
  go_wp2
  go_loop [15, 16] (fun z i => ∃ (k : Nat) (x : Int), k ≤ n0 ∧ i = .int .i64 k ∧ z = .int .i64 x ∧ 0 ≤ x ∧ x ≤ 1048576 ∧ ∀ r, r < k → L0 r ≤ 1048576) (fun _ i => n0 - (intOf i).toNat)
  case atStart => exact ⟨0, _, Nat.zero_le _, rfl, rfl, by omega, by omega, fun r hr => by omega⟩
  case round =>
    obtain ⟨k, x0, hk, rfl, rfl, hx0, hy0, hL0⟩ := hrel
    by_cases hlt : k < n0
    case pos =>
      obtain ⟨b, off, rfl, hc⟩ := h0.top k hlt
      have hr := h0.row k hlt
      have HL : Hid (∀ r, r < k → L0 r ≤ 1048576) := hL0
      clear hL0
      by_cases t1 : L0 k ≤ 1048576
      case neg =>
        go_wp2
        go_ret
        exact ⟨Or.inl rfl, rfl⟩
      by_cases t2 : x0 + L0 k ≤ 1048576
      case neg =>
        go_wp2
        go_ret
        exact ⟨Or.inl rfl, rfl⟩
      go_wp2
      go_round
      case rel => exact ⟨k + 1, _, by omega, by go_num, rfl, by omega, by omega, small_step HL t1⟩
      case measure => simp [intOf]; omega
    have S0 : Small n0 L0 := ⟨m0, fun r hr => hL0 r (by omega)⟩
    clear hL0 h0
    by_cases m1 : n1 ≤ 1048576
    case neg =>
      go_wp2
      go_ret
      exact ⟨Or.inl rfl, rfl⟩
    by_cases q1 : x0 + n1 ≤ 1048576
    case neg =>
      go_wp2
      go_ret
      exact ⟨Or.inl rfl, rfl⟩
    go_wp2
    go_loop [15, 17] (fun z i => ∃ (k : Nat) (x : Int), k ≤ n1 ∧ i = .int .i64 k ∧ z = .int .i64 x ∧ 0 ≤ x ∧ x ≤ 1048576 ∧ ∀ r, r < k → L1 r ≤ 1048576) (fun _ i => n1 - (intOf i).toNat)
    case atStart => exact ⟨0, _, Nat.zero_le _, rfl, rfl, by omega, by omega, fun r hr => by omega⟩
    case round =>
      obtain ⟨k, x1, hk, rfl, rfl, hx1, hy1, hL1⟩ := hrel
      by_cases hlt : k < n1
      case pos =>
        obtain ⟨b, off, rfl, hc⟩ := h1.top k hlt
        have hr := h1.row k hlt
        have HL : Hid (∀ r, r < k → L1 r ≤ 1048576) := hL1
        clear hL1
        by_cases t1 : L1 k ≤ 1048576
        case neg =>
          go_wp2
          go_ret
          exact ⟨Or.inl rfl, rfl⟩
        by_cases t2 : x1 + L1 k ≤ 1048576
        case neg =>
          go_wp2
          go_ret
          exact ⟨Or.inl rfl, rfl⟩
        go_wp2
        go_round
        case rel => exact ⟨k + 1, _, by omega, by go_num, rfl, by omega, by omega, small_step HL t1⟩
        case measure => simp [intOf]; omega
      have S1 : Small n1 L1 := ⟨m1, fun r hr => hL1 r (by omega)⟩
      clear hL1 h1
      by_cases m2 : n2 ≤ 1048576
      case neg =>
        go_wp2
        go_ret
        exact ⟨Or.inl rfl, rfl⟩
      by_cases q2 : x1 + n2 ≤ 1048576
      case neg =>
        go_wp2
        go_ret
        exact ⟨Or.inl rfl, rfl⟩
      go_wp2
      go_loop [15, 18] (fun z i => ∃ (k : Nat) (x : Int), k ≤ n2 ∧ i = .int .i64 k ∧ z = .int .i64 x ∧ 0 ≤ x ∧ x ≤ 1048576 ∧ ∀ r, r < k → L2 r ≤ 1048576) (fun _ i => n2 - (intOf i).toNat)
      case atStart => exact ⟨0, _, Nat.zero_le _, rfl, rfl, by omega, by omega, fun r hr => by omega⟩
      case round =>
        obtain ⟨k, x2, hk, rfl, rfl, hx2, hy2, hL2⟩ := hrel
        by_cases hlt : k < n2
        case pos =>
          obtain ⟨b, off, rfl, hc⟩ := h2.top k hlt
          have hr := h2.row k hlt
          have HL : Hid (∀ r, r < k → L2 r ≤ 1048576) := hL2
          clear hL2
          by_cases t1 : L2 k ≤ 1048576
          case neg =>
            go_wp2
            go_ret
            exact ⟨Or.inl rfl, rfl⟩
          by_cases t2 : x2 + L2 k ≤ 1048576
          case neg =>
            go_wp2
            go_ret
            exact ⟨Or.inl rfl, rfl⟩
          go_wp2
          go_round
          case rel => exact ⟨k + 1, _, by omega, by go_num, rfl, by omega, by omega, small_step HL t1⟩
          case measure => simp [intOf]; omega
        have S2 : Small n2 L2 := ⟨m2, fun r hr => hL2 r (by omega)⟩
        clear hL2 h2
        by_cases m3 : n3 ≤ 1048576
        case neg =>
          go_wp2
          go_ret
          exact ⟨Or.inl rfl, rfl⟩
        by_cases q3 : x2 + n3 ≤ 1048576
        case neg =>
          go_wp2
          go_ret
          exact ⟨Or.inl rfl, rfl⟩
        go_wp2
        go_loop [15, 19] (fun z i => ∃ (k : Nat) (x : Int), k ≤ n3 ∧ i = .int .i64 k ∧ z = .int .i64 x ∧ 0 ≤ x ∧ x ≤ 1048576 ∧ ∀ r, r < k → L3 r ≤ 1048576) (fun _ i => n3 - (intOf i).toNat)
        case atStart => exact ⟨0, _, Nat.zero_le _, rfl, rfl, by omega, by omega, fun r hr => by omega⟩
        case round =>
          obtain ⟨k, x3, hk, rfl, rfl, hx3, hy3, hL3⟩ := hrel
          by_cases hlt : k < n3
          case pos =>
            obtain ⟨b, off, rfl, hc⟩ := h3.top k hlt
            have hr := h3.row k hlt
            have HL : Hid (∀ r, r < k → L3 r ≤ 1048576) := hL3
            clear hL3
            by_cases t1 : L3 k ≤ 1048576
            case neg =>
              go_wp2
              go_ret
              exact ⟨Or.inl rfl, rfl⟩
            by_cases t2 : x3 + L3 k ≤ 1048576
            case neg =>
              go_wp2
              go_ret
              exact ⟨Or.inl rfl, rfl⟩
            go_wp2
            go_round
            case rel => exact ⟨k + 1, _, by omega, by go_num, rfl, by omega, by omega, small_step HL t1⟩
            case measure => simp [intOf]; omega
          have S3 : Small n3 L3 := ⟨m3, fun r hr => hL3 r (by omega)⟩
          clear hL3 h3
          by_cases m4 : n4 ≤ 1048576
          case neg =>
            go_wp2
            go_ret
            exact ⟨Or.inl rfl, rfl⟩
          by_cases q4 : x3 + n4 ≤ 1048576
          case neg =>
            go_wp2
            go_ret
            exact ⟨Or.inl rfl, rfl⟩
          go_wp2
          go_loop [15, 20] (fun z i => ∃ (k : Nat) (x : Int), k ≤ n4 ∧ i = .int .i64 k ∧ z = .int .i64 x ∧ 0 ≤ x ∧ x ≤ 1048576 ∧ ∀ r, r < k → L4 r ≤ 1048576) (fun _ i => n4 - (intOf i).toNat)
          case atStart => exact ⟨0, _, Nat.zero_le _, rfl, rfl, by omega, by omega, fun r hr => by omega⟩
          case round =>
            obtain ⟨k, x4, hk, rfl, rfl, hx4, hy4, hL4⟩ := hrel
            by_cases hlt : k < n4
            case pos =>
              obtain ⟨b, off, rfl, hc⟩ := h4.top k hlt
              have hr := h4.row k hlt
              have HL : Hid (∀ r, r < k → L4 r ≤ 1048576) := hL4
              clear hL4
              by_cases t1 : L4 k ≤ 1048576
              case neg =>
                go_wp2
                go_ret
                exact ⟨Or.inl rfl, rfl⟩
              by_cases t2 : x4 + L4 k ≤ 1048576
              case neg =>
                go_wp2
                go_ret
                exact ⟨Or.inl rfl, rfl⟩
              go_wp2
              go_round
              case rel => exact ⟨k + 1, _, by omega, by go_num, rfl, by omega, by omega, small_step HL t1⟩
              case measure => simp [intOf]; omega
            have S4 : Small n4 L4 := ⟨m4, fun r hr => hL4 r (by omega)⟩
            clear hL4 h4
            go_wp2
            go_ret
            exact ⟨Or.inr rfl, rfl⟩

set_option maxHeartbeats 2000000 in
set_option maxRecDepth 100000 in
/-- function 5: it answers; where it says true, every length is at most 2^20. -/
theorem bytes5_any (w : World) (o0 o1 o2 o3 o4 : Option Addr) (n0 n1 n2 n3 n4 c0 c1 c2 c3 c4 : Nat) (A0 A1 A2 A3 A4 : Nat → Option Addr) (L0 L1 L2 L3 L4 C0 C1 C2 C3 C4 : Nat → Nat) (x y : Int)
    (h0 : Tops w o0 n0 A0 L0 C0) (h1 : Tops w o1 n1 A1 L1 C1) (h2 : Tops w o2 n2 A2 L2 C2) (h3 : Tops w o3 n3 A3 L3 C3) (h4 : Tops w o4 n4 A4 L4 C4) :
    Calls Try.prog 5 #[.slice o0 n0 c0, .slice o1 n1 c1, .slice o2 n2 c2, .slice o3 n3 c3, .slice o4 n4 c4, .int .i64 x, .int .i64 y] w fun e w' => (e = .returned (.bool false) ∨ (e = .returned (.bool true) ∧ Small n0 L0 ∧ Small n1 L1 ∧ Small n2 L2 ∧ Small n3 L3 ∧ Small n4 L4)) ∧ w' = w := by
  have l0 := h0.len
  have l1 := h1.len
  have l2 := h2.len
  have l3 := h3.len
  have l4 := h4.len
  go_enter Try.func5, Try.ntmps5
  by_cases m0 : n0 ≤ 1048576
  case neg =>
    go_wp2
    go_ret
    exact ⟨Or.inl rfl, rfl⟩
  go_wp2
  go_loop [15, 16] (fun z i => ∃ (k : Nat) (x : Int), k ≤ n0 ∧ i = .int .i64 k ∧ z = .int .i64 x ∧ 0 ≤ x ∧ x ≤ 1048576 ∧ ∀ r, r < k → L0 r ≤ 1048576) (fun _ i => n0 - (intOf i).toNat)
  case atStart => exact ⟨0, _, Nat.zero_le _, rfl, rfl, by omega, by omega, fun r hr => by omega⟩
  case round =>
    obtain ⟨k, x0, hk, rfl, rfl, hx0, hy0, hL0⟩ := hrel
    by_cases hlt : k < n0
    case pos =>
      obtain ⟨b, off, rfl, hc⟩ := h0.top k hlt
      have hr := h0.row k hlt
      have HL : Hid (∀ r, r < k → L0 r ≤ 1048576) := hL0
      clear hL0
      by_cases t1 : L0 k ≤ 1048576
      case neg =>
        go_wp2
        go_ret
        exact ⟨Or.inl rfl, rfl⟩
      by_cases t2 : x0 + L0 k ≤ 1048576
      case neg =>
        go_wp2
        go_ret
        exact ⟨Or.inl rfl, rfl⟩
      go_wp2
      go_round
      case rel => exact ⟨k + 1, _, by omega, by go_num, rfl, by omega, by omega, small_step HL t1⟩
      case measure => simp [intOf]; omega
    have S0 : Small n0 L0 := ⟨m0, fun r hr => hL0 r (by omega)⟩
    clear hL0 h0
    by_cases m1 : n1 ≤ 1048576
    case neg =>
      go_wp2
      go_ret
      exact ⟨Or.inl rfl, rfl⟩
    by_cases q1 : x0 + n1 ≤ 1048576
    case neg =>
      go_wp2
      go_ret
      exact ⟨Or.inl rfl, rfl⟩
    go_wp2
    go_loop [15, 17] (fun z i => ∃ (k : Nat) (x : Int), k ≤ n1 ∧ i = .int .i64 k ∧ z = .int .i64 x ∧ 0 ≤ x ∧ x ≤ 1048576 ∧ ∀ r, r < k → L1 r ≤ 1048576) (fun _ i => n1 - (intOf i).toNat)
    case atStart => exact ⟨0, _, Nat.zero_le _, rfl, rfl, by omega, by omega, fun r hr => by omega⟩
    case round =>
      obtain ⟨k, x1, hk, rfl, rfl, hx1, hy1, hL1⟩ := hrel
      by_cases hlt : k < n1
      case pos =>
        obtain ⟨b, off, rfl, hc⟩ := h1.top k hlt
        have hr := h1.row k hlt
        have HL : Hid (∀ r, r < k → L1 r ≤ 1048576) := hL1
        clear hL1
        by_cases t1 : L1 k ≤ 1048576
        case neg =>
          go_wp2
          go_ret
          exact ⟨Or.inl rfl, rfl⟩
        by_cases t2 : x1 + L1 k ≤ 1048576
        case neg =>
          go_wp2
          go_ret
          exact ⟨Or.inl rfl, rfl⟩
        go_wp2
        go_round
        case rel => exact ⟨k + 1, _, by omega, by go_num, rfl, by omega, by omega, small_step HL t1⟩
        case measure => simp [intOf]; omega
      have S1 : Small n1 L1 := ⟨m1, fun r hr => hL1 r (by omega)⟩
      clear hL1 h1
      by_cases m2 : n2 ≤ 1048576
      case neg =>
        go_wp2
        go_ret
        exact ⟨Or.inl rfl, rfl⟩
      by_cases q2 : x1 + n2 ≤ 1048576
      case neg =>
        go_wp2
        go_ret
        exact ⟨Or.inl rfl, rfl⟩
      go_wp2
      go_loop [15, 18] (fun z i => ∃ (k : Nat) (x : Int), k ≤ n2 ∧ i = .int .i64 k ∧ z = .int .i64 x ∧ 0 ≤ x ∧ x ≤ 1048576 ∧ ∀ r, r < k → L2 r ≤ 1048576) (fun _ i => n2 - (intOf i).toNat)
      case atStart => exact ⟨0, _, Nat.zero_le _, rfl, rfl, by omega, by omega, fun r hr => by omega⟩
      case round =>
        obtain ⟨k, x2, hk, rfl, rfl, hx2, hy2, hL2⟩ := hrel
        by_cases hlt : k < n2
        case pos =>
          obtain ⟨b, off, rfl, hc⟩ := h2.top k hlt
          have hr := h2.row k hlt
          have HL : Hid (∀ r, r < k → L2 r ≤ 1048576) := hL2
          clear hL2
          by_cases t1 : L2 k ≤ 1048576
          case neg =>
            go_wp2
            go_ret
            exact ⟨Or.inl rfl, rfl⟩
          by_cases t2 : x2 + L2 k ≤ 1048576
          case neg =>
            go_wp2
            go_ret
            exact ⟨Or.inl rfl, rfl⟩
          go_wp2
          go_round
          case rel => exact ⟨k + 1, _, by omega, by go_num, rfl, by omega, by omega, small_step HL t1⟩
          case measure => simp [intOf]; omega
        have S2 : Small n2 L2 := ⟨m2, fun r hr => hL2 r (by omega)⟩
        clear hL2 h2
        by_cases m3 : n3 ≤ 1048576
        case neg =>
          go_wp2
          go_ret
          exact ⟨Or.inl rfl, rfl⟩
        by_cases q3 : x2 + n3 ≤ 1048576
        case neg =>
          go_wp2
          go_ret
          exact ⟨Or.inl rfl, rfl⟩
        go_wp2
        go_loop [15, 19] (fun z i => ∃ (k : Nat) (x : Int), k ≤ n3 ∧ i = .int .i64 k ∧ z = .int .i64 x ∧ 0 ≤ x ∧ x ≤ 1048576 ∧ ∀ r, r < k → L3 r ≤ 1048576) (fun _ i => n3 - (intOf i).toNat)
        case atStart => exact ⟨0, _, Nat.zero_le _, rfl, rfl, by omega, by omega, fun r hr => by omega⟩
        case round =>
          obtain ⟨k, x3, hk, rfl, rfl, hx3, hy3, hL3⟩ := hrel
          by_cases hlt : k < n3
          case pos =>
            obtain ⟨b, off, rfl, hc⟩ := h3.top k hlt
            have hr := h3.row k hlt
            have HL : Hid (∀ r, r < k → L3 r ≤ 1048576) := hL3
            clear hL3
            by_cases t1 : L3 k ≤ 1048576
            case neg =>
              go_wp2
              go_ret
              exact ⟨Or.inl rfl, rfl⟩
            by_cases t2 : x3 + L3 k ≤ 1048576
            case neg =>
              go_wp2
              go_ret
              exact ⟨Or.inl rfl, rfl⟩
            go_wp2
            go_round
            case rel => exact ⟨k + 1, _, by omega, by go_num, rfl, by omega, by omega, small_step HL t1⟩
            case measure => simp [intOf]; omega
          have S3 : Small n3 L3 := ⟨m3, fun r hr => hL3 r (by omega)⟩
          clear hL3 h3
          by_cases m4 : n4 ≤ 1048576
          case neg =>
            go_wp2
            go_ret
            exact ⟨Or.inl rfl, rfl⟩
          by_cases q4 : x3 + n4 ≤ 1048576
          case neg =>
            go_wp2
            go_ret
            exact ⟨Or.inl rfl, rfl⟩
          go_wp2
          go_loop [15, 20] (fun z i => ∃ (k : Nat) (x : Int), k ≤ n4 ∧ i = .int .i64 k ∧ z = .int .i64 x ∧ 0 ≤ x ∧ x ≤ 1048576 ∧ ∀ r, r < k → L4 r ≤ 1048576) (fun _ i => n4 - (intOf i).toNat)
          case atStart => exact ⟨0, _, Nat.zero_le _, rfl, rfl, by omega, by omega, fun r hr => by omega⟩
          case round =>
            obtain ⟨k, x4, hk, rfl, rfl, hx4, hy4, hL4⟩ := hrel
            by_cases hlt : k < n4
            case pos =>
              obtain ⟨b, off, rfl, hc⟩ := h4.top k hlt
              have hr := h4.row k hlt
              have HL : Hid (∀ r, r < k → L4 r ≤ 1048576) := hL4
              clear hL4
              by_cases t1 : L4 k ≤ 1048576
              case neg =>
                go_wp2
                go_ret
                exact ⟨Or.inl rfl, rfl⟩
              by_cases t2 : x4 + L4 k ≤ 1048576
              case neg =>
                go_wp2
                go_ret
                exact ⟨Or.inl rfl, rfl⟩
              go_wp2
              go_round
              case rel => exact ⟨k + 1, _, by omega, by go_num, rfl, by omega, by omega, small_step HL t1⟩
              case measure => simp [intOf]; omega
            have S4 : Small n4 L4 := ⟨m4, fun r hr => hL4 r (by omega)⟩
            clear hL4 h4
            go_wp2
            go_ret
            exact ⟨Or.inr rfl, rfl⟩
end Go.Proofs.Qxb6616828a
