/-
  The law's middle: the total length, the check of the history, the bounds.
-/
import Derived.Test.Qxb6616342aBuild
namespace Go.Proofs.Qxb6616342a
open Go.RowKit

set_option maxHeartbeats 8000000 in
set_option maxRecDepth 1000000 in
theorem tail9 (a : Act) (w w0 : World) (o0 o1 o2 o3 o4 o5 : Option Addr) (n0 n1 n2 n3 n4 n5 c0 c1 c2 c3 c4 c5 : Nat) (A : Nat → Int) (B : Nat → Bool) (S : Nat → ByteArray) (V C R : Nat → Int) (at_ gc : Int) (g : ByteArray) (gl : Int) (hs : a.tmps.size = 373) (hd : a.defers = [])
    (s0 : a.tmps.getD 0 undef = .slice o0 n0 c0)
    (s1 : a.tmps.getD 1 undef = .slice o1 n1 c1)
    (s2 : a.tmps.getD 2 undef = .slice o2 n2 c2)
    (s3 : a.tmps.getD 3 undef = .slice o3 n3 c3)
    (s4 : a.tmps.getD 4 undef = .slice o4 n4 c4)
    (s5 : a.tmps.getD 5 undef = .slice o5 n5 c5)
    (s6 : a.tmps.getD 6 undef = .int .i64 at_) (s7 : a.tmps.getD 7 undef = .int .i64 gc) (s8 : a.tmps.getD 8 undef = .string g) (s9 : a.tmps.getD 9 undef = .int .i64 gl)
    (h0 : Row w o0 n0 (fun k => .int .i64 (A k)))
    (h1 : Row w o1 n1 (fun k => .bool (B k)))
    (h2 : Row w o2 n2 (fun k => .string (S k)))
    (h3 : Row w o3 n3 (fun k => .int .i64 (V k)))
    (h4 : Row w o4 n4 (fun k => .int .i64 (C k)))
    (h5 : Row w o5 n5 (fun k => .int .i64 (R k)))
    (m0 : n0 ≤ 4096)
    (m1 : n1 ≤ 4096)
    (m2 : n2 ≤ 4096)
    (m3 : n3 ≤ 4096)
    (m4 : n4 ≤ 4096)
    (m5 : n5 ≤ 4096)
    (hS : ∀ k, k < n2 → (S k).size ≤ 1048576) (hg : g.size ≤ 1048576) (hc : ∀ i, i < n4 → C i ≤ 9223372036854775807) (hB : Below w0.heap.size w0 w) :
    Code.wp Try.prog (tail3 Try.f3 9) (bodyPost Try.prog Try.f3 (fun e w' => e = .returned (.bool true) ∧ Below w0.heap.size w0 w')) a w := by
  rw [act_lit a hs hd]
  rw [s0, s1, s2, s3, s4, s5, s6, s7, s8, s9]
  obtain ⟨f, hf⟩ : ∃ f : Nat → Value, ∀ t, a.tmps.getD t undef = f t := ⟨_, fun _ => rfl⟩
  simp only [hf]
  clear hf s0 s1 s2 s3 s4 s5 s6 s7 s8 s9 hs hd a
  have H0 := Lib.hid h0
  have H1 := Lib.hid h1
  have H2 := Lib.hid h2
  have H3 := Lib.hid h3
  have H4 := Lib.hid h4
  have H5 := Lib.hid h5
  have HB := Lib.hid hB
  have HC := Lib.hid hc
  have HS := Lib.hid hS
  have RE := Lib.hid (reach_any w o0 o1 o2 o3 o4 o5 n0 n1 n2 n3 n4 n5 c0 c1 c2 c3 c4 c5 A B S V C R h0 h1 h2 h3 h4 h5 m0 m1 m2 m3 m4 m5 hS)
  have VA := Lib.hid (valid_any g hg)
  clear h0 h1 h2 h3 h4 h5 hB hc hS
  conv => arg 2; whnf
  go_wp2
  all_goals try (go_ret; exact ⟨rfl, HB.out⟩)
  go_loopg [27, 28] n2 (fun gh s i wr => ∃ (k : Nat) (x : Int), k ≤ n2 ∧ gh = n2 - k ∧ i = .int .i64 k ∧ s = .int .i64 x ∧ 0 ≤ x ∧ x ≤ 1048576 ∧ wr = w)
  case atStart => exact ⟨0, _, Nat.zero_le _, rfl, rfl, rfl, by omega, by omega, rfl⟩
  case round =>
  obtain ⟨k, x, hk, rfl, rfl, rfl, hx0, hx1, rfl⟩ := hrel
  by_cases hlt : k < n2
  case pos =>
    obtain ⟨b, off, rfl, _, hc⟩ := H2.out.cells k hlt
    have hk2 := HS.out k hlt
    clear H0 H1 H2 H3 H4 H5 RE VA HS
    go_wp2
    all_goals first
      | (go_ret; exact ⟨rfl, HB.out⟩)
      | (go_roundg (n2 - (k + 1))
         case measure => omega
         case rel => exact ⟨k + 1, _, by omega, rfl, by go_num, rfl, by omega, by omega, rfl⟩)
  go_wp2_with fail
  refine RE.out.mono ?_
  rintro e w' ⟨he, dd, rfl⟩
  rcases he with rfl | ⟨rfl, rfl, rfl, rfl, rfl, rfl, hr⟩
  · go_wp2
    go_ret
    exact ⟨rfl, ⟨HB.out.os, HB.out.tape, HB.out.output, HB.out.size, HB.out.block⟩⟩
  have HRR := Lib.hid hr
  clear hr RE
  by_cases a0 : at_ < 0
  case pos =>
    go_wp2_with (go_at_call 6; refine (VA.out _).mono ?_; rintro e w'' ⟨rfl | rfl, hw⟩ <;> subst w'')
    go_ret
    exact ⟨rfl, ⟨HB.out.os, HB.out.tape, HB.out.output, HB.out.size, HB.out.block⟩⟩
  obtain ⟨p, rfl⟩ := Int.eq_ofNat_of_zero_le (by omega : 0 ≤ at_)
  by_cases a1 : n5 < p
  case pos =>
    go_wp2_with (go_at_call 6; refine (VA.out _).mono ?_; rintro e w'' ⟨rfl | rfl, hw⟩ <;> subst w'')
    go_ret
    exact ⟨rfl, ⟨HB.out.os, HB.out.tape, HB.out.output, HB.out.size, HB.out.block⟩⟩
  by_cases a2 : gc < 0
  case pos =>
    go_wp2_with (go_at_call 6; refine (VA.out _).mono ?_; rintro e w'' ⟨rfl | rfl, hw⟩ <;> subst w'')
    go_ret
    exact ⟨rfl, ⟨HB.out.os, HB.out.tape, HB.out.output, HB.out.size, HB.out.block⟩⟩
  by_cases a3 : gl < 0
  case pos =>
    go_wp2_with (go_at_call 6; refine (VA.out _).mono ?_; rintro e w'' ⟨rfl | rfl, hw⟩ <;> subst w'')
    go_ret
    exact ⟨rfl, ⟨HB.out.os, HB.out.tape, HB.out.output, HB.out.size, HB.out.block⟩⟩
  have hbd : ∀ {w : World} {d : Nat}, Below w.heap.size w (w.drewN d) := ⟨rfl, rfl, rfl, Nat.le_refl _, fun _ _ => rfl⟩
  go_upto_if 213 with (go_at_call 6; refine (VA.out _).mono ?_; rintro e w'' ⟨rfl | rfl, hw⟩ <;> subst w'')
  · go_wp2
    go_ret
    exact ⟨rfl, ⟨HB.out.os, HB.out.tape, HB.out.output, HB.out.size, HB.out.block⟩⟩
  have T := Lib.hid (fun (a : Act) (hs : a.tmps.size = 373) (hd : a.defers = []) s0 s1 s2 s3 s4 s5 s6 s7 s8 s9 s29 => tail15 a (wr.drewN dd) w0 o0 o1 o2 o3 o4 o5 n5 c0 c1 c2 c3 c4 c5 p A B S V C R gc g gl hs hd s0 s1 s2 s3 s4 s5 s6 s7 s8 s9 s29 (H0.out.below hbd) (H1.out.below hbd) (H2.out.below hbd) (H3.out.below hbd) (H4.out.below hbd) (H5.out.below hbd) m5 (by omega) HRR.out HC.out ⟨HB.out.os, HB.out.tape, HB.out.output, HB.out.size, HB.out.block⟩)
  clear HB HC HS VA HRR H0 H1 H2 H3 H4 H5 hbd
  go_step
  go_step
  (try simp only [Exit.then])
  go_step
  refine T.out _ ?_ ?_ ?_ ?_ ?_ ?_ ?_ ?_ ?_ ?_ ?_ ?_ ?_
  all_goals rfl
end Go.Proofs.Qxb6616342a
