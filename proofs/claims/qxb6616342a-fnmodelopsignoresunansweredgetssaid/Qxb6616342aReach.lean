/-
  'zzReachableHistory': it answers; what a 'true' says of the six arguments. It only reads.
-/
import Derived.Test.Qxb6616342aBytes
import Derived.BigQuiet
import Derived.Deep.Draws
namespace Go.Proofs.Qxb6616342a
open Go.RowKit

theorem ret_step {C R : Nat → Int} {k : Nat} (h : Hid (∀ r, r < k → R r = -1 ∨ C r ≤ R r)) (hk : R k = -1 ∨ C k ≤ R k) : ∀ r, r < k + 1 → R r = -1 ∨ C r ≤ R r := fun r hr => by
  rcases Nat.lt_or_ge r k with h1 | h1
  · exact h.out r h1
  · obtain rfl : r = k := by omega
    exact hk

set_option maxHeartbeats 4000000 in
set_option maxRecDepth 100000 in
theorem reach_any (w : World) (o0 o1 o2 o3 o4 o5 : Option Addr) (n0 n1 n2 n3 n4 n5 c0 c1 c2 c3 c4 c5 : Nat) (A : Nat → Int) (B : Nat → Bool) (S : Nat → ByteArray) (V C R : Nat → Int)
    (h0 : Row w o0 n0 (fun k => .int .i64 (A k))) (h1 : Row w o1 n1 (fun k => .bool (B k))) (h2 : Row w o2 n2 (fun k => .string (S k))) (h3 : Row w o3 n3 (fun k => .int .i64 (V k))) (h4 : Row w o4 n4 (fun k => .int .i64 (C k))) (h5 : Row w o5 n5 (fun k => .int .i64 (R k)))
    (l0 : n0 ≤ 4096) (l1 : n1 ≤ 4096) (l2 : n2 ≤ 4096) (l3 : n3 ≤ 4096) (l4 : n4 ≤ 4096) (l5 : n5 ≤ 4096) (hS : ∀ k, k < n2 → (S k).size ≤ 1048576) :
    Calls Try.prog 5 #[.slice o0 n0 c0, .slice o1 n1 c1, .slice o2 n2 c2, .slice o3 n3 c3, .slice o4 n4 c4, .slice o5 n5 c5] w fun e w' =>
      (e = .returned (.bool false) ∨ (e = .returned (.bool true) ∧ n1 = n0 ∧ n2 = n0 ∧ n3 = n0 ∧ n4 = n0 ∧ n5 = n0 ∧ ∀ k, k < n0 → R k = -1 ∨ C k ≤ R k)) ∧ ∃ d, w' = w.drewN d := by
  have H0 := Lib.hid h0
  have H1 := Lib.hid h1
  have H2 := Lib.hid h2
  have H3 := Lib.hid h3
  have H4 := Lib.hid h4
  have H5 := Lib.hid h5
  have HS := Lib.hid hS
  clear h0 h1 h2 h3 h4 h5 hS
  by_cases z1 : n1 = n0
  case neg =>
    have nb : ((n1 : Int) != (n0 : Int)) = true := by rw [bne_iff_ne]; omega
    clear z1
    go_enter Try.func5, Try.ntmps5
    go_wp2
    go_ret
    exact ⟨Or.inl rfl, 0, rfl⟩
  subst n1
  by_cases z2 : n2 = n0
  case neg =>
    have nb : ((n2 : Int) != (n0 : Int)) = true := by rw [bne_iff_ne]; omega
    clear z2
    go_enter Try.func5, Try.ntmps5
    go_wp2
    go_ret
    exact ⟨Or.inl rfl, 0, rfl⟩
  subst n2
  by_cases z3 : n3 = n0
  case neg =>
    have nb : ((n3 : Int) != (n0 : Int)) = true := by rw [bne_iff_ne]; omega
    clear z3
    go_enter Try.func5, Try.ntmps5
    go_wp2
    go_ret
    exact ⟨Or.inl rfl, 0, rfl⟩
  subst n3
  by_cases z4 : n4 = n0
  case neg =>
    have nb : ((n4 : Int) != (n0 : Int)) = true := by rw [bne_iff_ne]; omega
    clear z4
    go_enter Try.func5, Try.ntmps5
    go_wp2
    go_ret
    exact ⟨Or.inl rfl, 0, rfl⟩
  subst n4
  by_cases z5 : n5 = n0
  case neg =>
    have nb : ((n5 : Int) != (n0 : Int)) = true := by rw [bne_iff_ne]; omega
    clear z5
    go_enter Try.func5, Try.ntmps5
    go_wp2
    go_ret
    exact ⟨Or.inl rfl, 0, rfl⟩
  subst n5
  clear l1 l2 l3 l4 l5
  go_enter Try.func5, Try.ntmps5
  go_wp2
  go_loopg [14, 15] n0 (fun gh nx i wr => ∃ (k : Nat) (x : Int) (d : Nat), k ≤ n0 ∧ gh = n0 - k ∧ i = .int .i64 k ∧ nx = .int .i64 x ∧ 0 ≤ x ∧ x ≤ k ∧ wr = w.drewN d ∧ ∀ r, r < k → R r = -1 ∨ C r ≤ R r)
  case atStart => exact ⟨0, _, 0, Nat.zero_le _, rfl, rfl, rfl, by omega, by omega, rfl, fun r hr => by omega⟩
  case round =>
    obtain ⟨k, x, d, hk, rfl, rfl, rfl, hx0, hx1, rfl, hL⟩ := hrel
    have HL := Lib.hid hL
    clear hL
    by_cases hlt : k < n0
    case neg =>
      have F := Lib.hid (fun r (hr : r < n0) => HL.out r (by omega))
      clear H0 H1 H2 H3 H4 H5 HS HL
      go_wp2
      go_ret
      exact ⟨Or.inr ⟨rfl, trivial, trivial, trivial, trivial, trivial, F.out⟩, _, rfl⟩
    obtain ⟨b0, f0, rfl, _, d0⟩ := H0.out.cells k hlt
    obtain ⟨b1, f1, rfl, _, d1⟩ := H1.out.cells k hlt
    obtain ⟨b2, f2, rfl, _, d2⟩ := H2.out.cells k hlt
    obtain ⟨b3, f3, rfl, _, d3⟩ := H3.out.cells k hlt
    obtain ⟨b4, f4, rfl, _, d4⟩ := H4.out.cells k hlt
    obtain ⟨b5, f5, rfl, _, d5⟩ := H5.out.cells k hlt
    have VA := Lib.hid (valid_any (S k) (HS.out k hlt))
    clear H0 H1 H2 H3 H4 H5 HS
    have HR : Hid (R k = -1 ∨ C k ≤ R k) → ∀ r, r < k + 1 → R r = -1 ∨ C r ≤ R r := fun h => ret_step HL h.out
    have HHR := Lib.hid HR
    clear HR HL
    generalize A k = va at *
    generalize hbk : B k = vb at *
    generalize S k = vs at *
    generalize V k = vv at *
    generalize C k = vc at *
    generalize R k = vr at *
    clear hbk
    by_cases g0 : va < 0
    case pos =>
      go_wp2
      go_ret
      exact ⟨Or.inl rfl, _, rfl⟩
    by_cases g1 : vc < 0
    case pos =>
      go_wp2
      go_ret
      exact ⟨Or.inl rfl, _, rfl⟩
    by_cases g2 : vr = -1
    case pos =>
      have gb : (vr != -1) = false := by rw [bne_eq_false_iff_eq]; exact g2
      have gb' : (vr == -1) = true := by rw [beq_iff_eq]; exact g2
      have HRR := Lib.hid (HHR.out (Lib.hid (Or.inl g2)))
      clear g2 HHR
      go_wp2_with fail
      go_quiet (fail)
      go_wp2_with (go_at_call 6; refine (VA.out _).mono ?_; rintro e w'' ⟨rfl | rfl, hw⟩ <;> subst w'')
      all_goals first
        | (go_ret; exact ⟨Or.inl rfl, _, rfl⟩)
        | (go_roundg (n0 - (k + 1))
           case measure => omega
           case rel => exact ⟨k + 1, _, _, by omega, rfl, by go_num, rfl, by omega, by omega, rfl, HRR.out⟩)
    have gb : (vr != -1) = true := by rw [bne_iff_ne]; exact g2
    have gb' : (vr == -1) = false := by rw [beq_eq_false_iff_ne]; exact g2
    by_cases g3 : vr < vc
    case pos =>
      have gd : decide (vr < vc) = true := decide_eq_true g3
      clear g2 HHR
      go_wp2_with fail
      go_quiet (fail)
      go_wp2_with (go_at_call 6; refine (VA.out _).mono ?_; rintro e w'' ⟨rfl | rfl, hw⟩ <;> subst w'')
      go_ret
      exact ⟨Or.inl rfl, by simp only [World.drewN_drewN]; exact ⟨_, rfl⟩⟩
    have gd : decide (vr < vc) = false := decide_eq_false g3
    have HRR := Lib.hid (HHR.out (Lib.hid (Or.inr (by omega))))
    clear g2 HHR
    go_wp2_with fail
    go_quiet (fail)
    go_wp2_with (go_at_call 6; refine (VA.out _).mono ?_; rintro e w'' ⟨rfl | rfl, hw⟩ <;> subst w'')
    all_goals first
      | (go_ret; exact ⟨Or.inl rfl, _, rfl⟩)
      | (go_roundg (n0 - (k + 1))
         case measure => omega
         case rel => exact ⟨k + 1, _, _, by omega, rfl, by go_num, rfl, by omega, by omega, rfl, HRR.out⟩)
end Go.Proofs.Qxb6616342a
