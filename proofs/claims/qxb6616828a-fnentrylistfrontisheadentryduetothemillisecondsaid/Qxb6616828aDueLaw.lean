/-
  THE LAW: 'FnEntryListFrontIsHeadEntryDueToTheMillisecond', whatever its arguments.
-/
import Derived.Test.Qxb6616828aDueCore
namespace Go.Proofs.Qxb6616828a
open Go.RowKit

set_option maxHeartbeats 2000000 in
set_option maxRecDepth 100000 in
/-- THE LAW, for whatever five slices of slices and whatever two integers. -/
theorem due_any (w : World) (o0 o1 o2 o3 o4 : Option Addr) (n0 n1 n2 n3 n4 c0 c1 c2 c3 c4 : Nat) (A0 A1 A2 A3 A4 : Nat → Option Addr) (L0 L1 L2 L3 L4 C0 C1 C2 C3 C4 : Nat → Nat) (Z0 Z1 Z2 Z3 Z4 : Nat → Nat → Int) (head m : Int)
    (g0 : Grid w o0 n0 A0 L0 C0 Z0) (g1 : Grid w o1 n1 A1 L1 C1 Z1) (g2 : Grid w o2 n2 A2 L2 C2 Z2) (g3 : Grid w o3 n3 A3 L3 C3 Z3) (g4 : Grid w o4 n4 A4 L4 C4 Z4)
    (hd : -9223372036854775808 ≤ head ∧ head ≤ 9223372036854775807) (hm : -9223372036854775808 ≤ m ∧ m ≤ 9223372036854775807) :
    Calls Try.prog 3 #[.slice o0 n0 c0, .slice o1 n1 c1, .slice o2 n2 c2, .slice o3 n3 c3, .slice o4 n4 c4, .int .i64 head, .int .i64 m] w fun e w' => e = .returned (.bool true) ∧ Below w.heap.size w w' := by
  have K5 := bytes5_any w o0 o1 o2 o3 o4 n0 n1 n2 n3 n4 c0 c1 c2 c3 c4 A0 A1 A2 A3 A4 L0 L1 L2 L3 L4 C0 C1 C2 C3 C4 head m g0.tops g1.tops g2.tops g3.tops g4.tops
  by_cases S : Small n0 L0 ∧ Small n1 L1 ∧ Small n2 L2 ∧ Small n3 L3 ∧ Small n4 L4
  case neg =>
    have k : Hid (Calls Try.prog 5 #[.slice o0 n0 c0, .slice o1 n1 c1, .slice o2 n2 c2, .slice o3 n3 c3, .slice o4 n4 c4, .int .i64 head, .int .i64 m] w fun e w' => e = .returned (.bool false) ∧ w' = w) :=
      K5.mono fun e w' ⟨hx, hw⟩ => ⟨hx.resolve_right (fun h => S h.2), hw⟩
    clear K5 S
    go_enter Try.func3, Try.ntmps3
    go_wp2_with fail
    refine k.out.mono ?_
    rintro e w' ⟨rfl, hw⟩
    subst w'
    go_wp2
    go_ret
    exact ⟨rfl, Below.refl _ _⟩
  obtain ⟨S0, S1, S2, S3, S4⟩ := S
  have k5 : Hid (Calls Try.prog 5 #[.slice o0 n0 c0, .slice o1 n1 c1, .slice o2 n2 c2, .slice o3 n3 c3, .slice o4 n4 c4, .int .i64 head, .int .i64 m] w fun e w' => ∃ b : Bool, e = .returned (.bool b) ∧ w' = w) :=
    K5.mono fun e w' ⟨hx, hw⟩ => hx.elim (fun h => ⟨_, h, hw⟩) (fun h => ⟨_, h.1, hw⟩)
  have k6 := Lib.hid (big_any w o0 o1 o2 o3 o4 n0 n1 n2 n3 n4 c0 c1 c2 c3 c4 A0 A1 A2 A3 A4 L0 L1 L2 L3 L4 C0 C1 C2 C3 C4 g0.tops g1.tops g2.tops g3.tops g4.tops S0 S1 S2 S3 S4)
  have K7 := list_any w o0 o1 o2 o3 o4 n0 n1 n2 n3 n4 c0 c1 c2 c3 c4 A0 A1 A2 A3 A4 L0 L1 L2 L3 L4 C0 C1 C2 C3 C4 head m 1 g0.tops g1.tops g2.tops g3.tops g4.tops S0 hd hm (by omega)
  clear K5
  by_cases OK : ListOK n0 n1 n2 n3 n4 L0 L1 L2 L3 L4 head m 1
  case neg =>
    have k : Hid (Calls Try.prog 7 #[.slice o0 n0 c0, .slice o1 n1 c1, .slice o2 n2 c2, .slice o3 n3 c3, .slice o4 n4 c4, .int .i64 head, .int .i64 m, .int .i64 1] w fun e w' => e = .returned (.bool false) ∧ w' = w) :=
      K7.mono fun e w' ⟨hx, hw⟩ => ⟨hx.resolve_right (fun h => OK h.2), hw⟩
    clear K7 OK S0 S1 S2 S3 S4
    go_enter Try.func3, Try.ntmps3
    go_wp2_with fail
    refine k5.out.mono ?_
    rintro e w' ⟨b, rfl, hw⟩
    subst w'
    cases b
    case false =>
      go_wp2
      go_ret
      exact ⟨rfl, Below.refl _ _⟩
    go_wp2_with fail
    refine k6.out.mono ?_
    rintro e w' ⟨b, rfl, hw⟩
    subst w'
    cases b
    case true =>
      go_wp2
      go_ret
      exact ⟨rfl, Below.refl _ _⟩
    go_wp2_with fail
    refine k.out.mono ?_
    rintro e w' ⟨rfl, hw⟩
    subst w'
    go_wp2
    go_ret
    exact ⟨rfl, Below.refl _ _⟩
  have k7 : Hid (Calls Try.prog 7 #[.slice o0 n0 c0, .slice o1 n1 c1, .slice o2 n2 c2, .slice o3 n3 c3, .slice o4 n4 c4, .int .i64 head, .int .i64 m, .int .i64 1] w fun e w' => ∃ b : Bool, e = .returned (.bool b) ∧ w' = w) :=
    K7.mono fun e w' ⟨hx, hw⟩ => hx.elim (fun h => ⟨_, h, hw⟩) (fun h => ⟨_, h.1, hw⟩)
  clear K7
  obtain ⟨pos, e1, e2, e3, e4, rows, hd0, hdm, hnm⟩ := OK
  subst n1 n2 n3 n4
  obtain ⟨h, rfl⟩ := Int.eq_ofNat_of_zero_le hd0
  exact due_core w o0 o1 o2 o3 o4 n0 c0 c1 c2 c3 c4 A0 A1 A2 A3 A4 L0 C0 C1 C2 C3 C4 Z0 Z1 Z2 Z3 Z4 h m g0 (g1.relen fun r hr => (rows r hr).1) (g2.relen fun r hr => (rows r hr).2.1) (g3.relen fun r hr => (rows r hr).2.2.1) (g4.relen fun r hr => (rows r hr).2.2.2.1)
    pos S0.1 (fun r hr => (rows r hr).2.2.2.2) (by omega) k5 k6 k7
end Go.Proofs.Qxb6616828a
