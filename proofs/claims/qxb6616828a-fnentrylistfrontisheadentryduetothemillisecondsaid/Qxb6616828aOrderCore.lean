/-
  THE LAW's WALK behind its checks: 'FnEntryListFrontKeepsTheOrderOfDueTimes' returns true.
-/
import Derived.Test.Qxb6616828aNewWalk
import Derived.Test.Qxb6616828aBytes
import Derived.Test.Qxb6616828aList
import Derived.Deep.QuietTactic
import Derived.BigQuiet
import Derived.WalkSmall
namespace Go.Proofs.Qxb6616828a
open Go.RowKit

/-- A grid under another function of lengths that agrees up to n. -/
theorem Grid.relen {w : World} {ao : Option Addr} {n : Nat} {A : Nat → Option Addr} {L L' C : Nat → Nat} {Z : Nat → Nat → Int} (h : Grid w ao n A L C Z) (e : ∀ r, r < n → L r = L' r) : Grid w ao n A L' C Z :=
  ⟨h.len, fun r hr => by rw [← e r hr]; exact h.row r hr, fun r hr => by rw [← e r hr]; exact h.top r hr, fun r hr c hc => h.num r hr c (by rw [e r hr]; exact hc), fun r hr c hc => h.bd r hr c (by rw [e r hr]; exact hc),
    fun r hr => by rw [← e r hr]; exact h.cap r hr⟩

/-- What the first row of a grid shows at index h: the outer cell, the number. -/
theorem Grid.first {w : World} {ao : Option Addr} {n : Nat} {A : Nat → Option Addr} {L C : Nat → Nat} {Z : Nat → Nat → Int} (g : Grid w ao n A L C Z) (hn : 1 ≤ n) (h : 0 < L 0) :
    ∃ b f p i, ao = some ⟨b, f, none⟩ ∧ b < w.heap.size ∧ p < w.heap.size ∧ w.cell? ⟨b, f, none⟩ = some (.slice (some ⟨p, i, none⟩) (L 0) (C 0)) ∧ ∀ c, c < L 0 → w.cell? ⟨p, i + c, none⟩ = some (.int .u32 (Z 0 c)) := by
  obtain ⟨b, f, rfl, s, t⟩ := g.top 0 hn
  obtain ⟨p, i, e, s', _⟩ := g.num 0 hn 0 h
  rw [Nat.add_zero, e] at t
  refine ⟨b, f, p, i, rfl, s, s', t, fun c hc => ?_⟩
  obtain ⟨p', i', e', _, t'⟩ := g.num 0 hn c hc
  rw [e] at e'
  cases e'
  exact t'

set_option maxHeartbeats 4000000 in
set_option maxRecDepth 100000 in
/-- The law behind its checks: the arguments are of one shape and the first block holds two entries from the head on. -/
theorem order_core (w : World) (o0 o1 o2 o3 o4 : Option Addr) (n c0 c1 c2 c3 c4 : Nat) (A0 A1 A2 A3 A4 : Nat → Option Addr) (L C0 C1 C2 C3 C4 : Nat → Nat) (Z0 Z1 Z2 Z3 Z4 : Nat → Nat → Int) (h : Nat) (m : Int)
    (g0 : Grid w o0 n A0 L C0 Z0) (g1 : Grid w o1 n A1 L C1 Z1) (g2 : Grid w o2 n A2 L C2 Z2) (g3 : Grid w o3 n A3 L C3 Z3) (g4 : Grid w o4 n A4 L C4 Z4)
    (hn1 : 1 ≤ n) (hn2 : n ≤ 1048576) (hL : ∀ r, r < n → L r ≤ 4096) (hh : h + 2 ≤ L 0) (hm : 2 ≤ m) (hm2 : m ≤ 9223372036854775807)
    (k12 : Hid (Calls Try.prog 12 #[.slice o0 n c0, .slice o1 n c1, .slice o2 n c2, .slice o3 n c3, .slice o4 n c4, .int .i64 (h : Int), .int .i64 m] w fun e w' => ∃ b : Bool, e = .returned (.bool b) ∧ w' = w))
    (k6 : Hid (Calls Try.prog 6 #[.slice o0 n c0, .slice o1 n c1, .slice o2 n c2, .slice o3 n c3, .slice o4 n c4] w fun e w' => ∃ b : Bool, e = .returned (.bool b) ∧ w' = w))
    (k7 : Hid (Calls Try.prog 7 #[.slice o0 n c0, .slice o1 n c1, .slice o2 n c2, .slice o3 n c3, .slice o4 n c4, .int .i64 (h : Int), .int .i64 m, .int .i64 2] w fun e w' => ∃ b : Bool, e = .returned (.bool b) ∧ w' = w)) :
    Calls Try.prog 4 #[.slice o0 n c0, .slice o1 n c1, .slice o2 n c2, .slice o3 n c3, .slice o4 n c4, .int .i64 (h : Int), .int .i64 m] w fun e w' => e = .returned (.bool true) ∧ Below w.heap.size w w' := by
  have h4 := hL 0 hn1
  have a3 := g3.bd 0 hn1 h (by omega)
  have a4 := g4.bd 0 hn1 h (by omega)
  have b3 := g3.bd 0 hn1 (h + 1) (by omega)
  have b4 := g4.bd 0 hn1 (h + 1) (by omega)
  have N1 := Lib.hid (new_any w o0 o1 o2 o3 o4 n c0 c1 c2 c3 c4 A0 A1 A2 A3 A4 L C0 C1 C2 C3 C4 Z0 Z1 Z2 Z3 Z4 h m g0 g1 g2 g3 g4 hn1 hn2 hL (by omega))
  have N2 : Hid (∀ W, Below w.heap.size w W → Calls Try.prog 9 #[.slice o0 n c0, .slice o1 n c1, .slice o2 n c2, .slice o3 n c3, .slice o4 n c4, .int .i64 ((h : Int) + 1), .int .i64 (m - 1)] W fun e w' =>
      ∃ p, e = .returned (.pointer (some ⟨p, 0, none⟩)) ∧ Below W.heap.size W w' ∧ HasFront w' p (h + 1) (Z0 0 (h + 1)) (Z1 0 (h + 1)) (Z2 0 (h + 1)) (Z3 0 (h + 1)) (Z4 0 (h + 1))) := fun W hW => by
    have := new_any W o0 o1 o2 o3 o4 n c0 c1 c2 c3 c4 A0 A1 A2 A3 A4 L C0 C1 C2 C3 C4 Z0 Z1 Z2 Z3 Z4 (h + 1) (m - 1) (g0.below hW) (g1.below hW) (g2.below hW) (g3.below hW) (g4.below hW) hn1 hn2 hL (by omega)
    rw [show ((h + 1 : Nat) : Int) = (h : Int) + 1 by omega] at this
    exact this
  obtain ⟨x0, y0, p0, i0, rfl, u0, v0, t0, d0⟩ := g0.first hn1 (by omega)
  obtain ⟨x1, y1, p1, i1, rfl, u1, v1, t1, d1⟩ := g1.first hn1 (by omega)
  obtain ⟨x2, y2, p2, i2, rfl, u2, v2, t2, d2⟩ := g2.first hn1 (by omega)
  obtain ⟨x3, y3, p3, i3, rfl, u3, v3, t3, d3⟩ := g3.first hn1 (by omega)
  obtain ⟨x4, y4, p4, i4, rfl, u4, v4, t4, d4⟩ := g4.first hn1 (by omega)
  clear g0 g1 g2 g3 g4 hL
  have q0 := d0 h (by omega); have r0 := d0 (h + 1) (by omega)
  have q1 := d1 h (by omega); have r1 := d1 (h + 1) (by omega)
  have q2 := d2 h (by omega); have r2 := d2 (h + 1) (by omega)
  have q3 := d3 h (by omega); have r3 := d3 (h + 1) (by omega)
  have q4 := d4 h (by omega); have r4 := d4 (h + 1) (by omega)
  clear d0 d1 d2 d3 d4
  generalize Z0 0 h = s0 at N1 q0
  generalize Z1 0 h = s1 at N1 q1
  generalize Z2 0 h = s2 at N1 q2
  generalize Z3 0 h = s3 at N1 q3 a3
  generalize Z4 0 h = s4 at N1 q4 a4
  generalize Z0 0 (h + 1) = z0 at N2 r0
  generalize Z1 0 (h + 1) = z1 at N2 r1
  generalize Z2 0 (h + 1) = z2 at N2 r2
  generalize Z3 0 (h + 1) = z3 at N2 r3 b3
  generalize Z4 0 (h + 1) = z4 at N2 r4 b4
  generalize L 0 = l at *
  generalize C0 0 = e0 at *
  generalize C1 0 = e1 at *
  generalize C2 0 = e2 at *
  generalize C3 0 = e3 at *
  generalize C4 0 = e4 at *
  have kA := keyOf_bd a3.1 a3.2 a4.1 a4.2
  have kB := keyOf_bd b3.1 b3.2 b4.1 b4.2
  have FA := Lib.hid (fun p W H => zzfront_any p h s0 s1 s2 s3 s4 W H a3.1 a3.2 a4.1 a4.2)
  have FB := Lib.hid (fun p W H => zzfront_any p (h + 1) z0 z1 z2 z3 z4 W H b3.1 b3.2 b4.1 b4.2)
  have KA := Lib.hid (fun W => zzkey_any s3 s4 W a3.1 a3.2 a4.1 a4.2)
  have KB := Lib.hid (fun W => zzkey_any z3 z4 W b3.1 b3.2 b4.1 b4.2)
  clear a3 a4 b3 b4
  unfold entryOf at FA FB
  generalize keyOf s3 s4 = ka at kA FA KA
  generalize keyOf z3 z4 = kb at kB FB KB
  obtain ⟨kA0, kA1⟩ := kA
  obtain ⟨kB0, kB1⟩ := kB
  go_enter Try.func4, Try.ntmps4
  go_wp2_with fail
  refine k12.out.mono ?_
  rintro e w' ⟨b, rfl, hw⟩
  subst w'
  cases b
  case false =>
    go_wp2
    go_ret
    exact ⟨rfl, Below.refl _ _⟩
  go_wp2_with fail
  refine k6.out.mono ?_
  rintro e w' ⟨b, rfl, hw⟩
  subst w'
  cases b
  case true =>
    go_wp2
    go_ret
    exact ⟨rfl, Below.refl _ _⟩
  go_wp2_with fail
  refine k7.out.mono ?_
  rintro e w' ⟨b, rfl, hw⟩
  subst w'
  cases b
  case false =>
    go_wp2
    go_ret
    exact ⟨rfl, Below.refl _ _⟩
  go_wp2_with fail
  refine N1.out.mono ?_
  rintro e w1 ⟨P1, rfl, B1, F1⟩
  go_wp2_with fail
  refine (FA.out P1 w1 F1).mono ?_
  rintro e w2 ⟨rfl, B2⟩
  have B12 : Below w.heap.size w w2 := B1.trans (B2.mono B1.size)
  clear B1 B2 F1 k12 k6 k7 N1 FA
  go_wp2_with fail
  have B12a : Below w.heap.size w (w2.alloc (.cells #[.int .u32 s0, .int .u32 s1, .int .u32 s2, .int .u16 (ka % 65536), .int .i64 (dueOf (ka / 65536))] 31)) := B12.alloc (by have := B12.size; omega) _
  refine (N2.out _ B12a).mono ?_
  rintro e w3 ⟨P2, rfl, B3, F2⟩
  go_wp2_with fail
  refine (FB.out P2 w3 F2).mono ?_
  rintro e w4 ⟨rfl, B4⟩
  have B24 := B3.trans (B4.mono B3.size)
  have B14 : Below w.heap.size w w4 := B12a.trans (B24.mono (by have := B12.size; simp; omega))
  obtain ⟨hc, hf⟩ := bcell B24
  have hz : w2.heap.size < w4.heap.size := by have := B24.size; simp at this; omega
  have e0' := hc w2.heap.size 0 (by simp)
  have e1' := hc w2.heap.size 1 (by simp)
  have e2' := hc w2.heap.size 2 (by simp)
  have e3' := hc w2.heap.size 3 (by simp)
  have e4' := hc w2.heap.size 4 (by simp)
  simp at e0' e1' e2' e3' e4'
  have t0' := (B14.cell (p := ⟨x0, y0, none⟩) u0).trans t0
  have q0' := (B14.cell (p := ⟨p0, i0 + h, none⟩) v0).trans q0
  have r0' := (B14.cell (p := ⟨p0, i0 + (h + 1), none⟩) v0).trans r0
  have u0' : x0 < w4.heap.size := by have := B14.size; omega
  have v0' : p0 < w4.heap.size := by have := B14.size; omega
  clear t0 q0 r0 u0 v0
  have t1' := (B14.cell (p := ⟨x1, y1, none⟩) u1).trans t1
  have q1' := (B14.cell (p := ⟨p1, i1 + h, none⟩) v1).trans q1
  have r1' := (B14.cell (p := ⟨p1, i1 + (h + 1), none⟩) v1).trans r1
  have u1' : x1 < w4.heap.size := by have := B14.size; omega
  have v1' : p1 < w4.heap.size := by have := B14.size; omega
  clear t1 q1 r1 u1 v1
  have t2' := (B14.cell (p := ⟨x2, y2, none⟩) u2).trans t2
  have q2' := (B14.cell (p := ⟨p2, i2 + h, none⟩) v2).trans q2
  have r2' := (B14.cell (p := ⟨p2, i2 + (h + 1), none⟩) v2).trans r2
  have u2' : x2 < w4.heap.size := by have := B14.size; omega
  have v2' : p2 < w4.heap.size := by have := B14.size; omega
  clear t2 q2 r2 u2 v2
  have t3' := (B14.cell (p := ⟨x3, y3, none⟩) u3).trans t3
  have q3' := (B14.cell (p := ⟨p3, i3 + h, none⟩) v3).trans q3
  have r3' := (B14.cell (p := ⟨p3, i3 + (h + 1), none⟩) v3).trans r3
  have u3' : x3 < w4.heap.size := by have := B14.size; omega
  have v3' : p3 < w4.heap.size := by have := B14.size; omega
  clear t3 q3 r3 u3 v3
  have t4' := (B14.cell (p := ⟨x4, y4, none⟩) u4).trans t4
  have q4' := (B14.cell (p := ⟨p4, i4 + h, none⟩) v4).trans q4
  have r4' := (B14.cell (p := ⟨p4, i4 + (h + 1), none⟩) v4).trans r4
  have u4' : x4 < w4.heap.size := by have := B14.size; omega
  have v4' : p4 < w4.heap.size := by have := B14.size; omega
  clear t4 q4 r4 u4 v4
  have FIN : Hid (Below w.heap.size w (w4.alloc (.cells #[.int .u32 z0, .int .u32 z1, .int .u32 z2, .int .u16 (kb % 65536), .int .i64 (dueOf (kb / 65536))] 31))) := B14.alloc (by have := B14.size; omega) _
  have hl1 : (h : Int) < l := by omega
  have hl2 : (h : Int) + 1 < l := by omega
  have hn' : (0 : Int) < n := by omega
  clear B12 B12a B3 B4 B24 B14 hc hf F2 N2 FB
  have dA := dueOf_bd (ms := ka / 65536) (by omega)
  have dB := dueOf_bd (ms := kb / 65536) (by omega)
  obtain ⟨dA0, dA1⟩ := dA
  obtain ⟨dB0, dB1⟩ := dB
  have HD := Lib.hid (And.intro (dueOf_mono (a := ka / 65536) (b := kb / 65536)) (And.intro (dueOf_mono (a := kb / 65536) (b := ka / 65536)) (And.intro (dueOf_strict (a := ka / 65536) (b := kb / 65536)) (And.intro (dueOf_strict (a := kb / 65536) (b := ka / 65536)) (dueOf_dist (a := ka / 65536) (b := kb / 65536))))))
  generalize dueOf (ka / 65536) = da at *
  generalize dueOf (kb / 65536) = db at *
  go_wp2_with fail
  go_quiet (fail)
  go_wp2_with fail
  go_quiet (fail)
  go_wp2_with fail
  go_quiet ((go_at_call 10; refine (KA.out _).mono ?_; rintro e w'' ⟨rfl, hw⟩; exact ⟨rfl, _, hw⟩))
  go_wp2_with fail
  go_quiet ((go_at_call 10; refine (KB.out _).mono ?_; rintro e w'' ⟨rfl, hw⟩; exact ⟨rfl, _, hw⟩))
  clear q0' r0' q1' r1' q2' r2' q3' r3' q4' r4' t0' t1' t2' t3' t4' u0' u1' u2' u3' u4' v0' v1' v2' v3' v4' KA KB
  have mA := and_mask ka kA0 kA1
  have mB := and_mask kb kB0 kB1
  obtain ⟨H1, H2, H3, H4, H5⟩ := HD.out
  clear HD
  rcases Int.lt_trichotomy (ka / 65536) (kb / 65536) with ho | ho | ho
  · have w1 := H1 (by omega)
    have eqb : (ka / 65536 == kb / 65536) = false := by rw [beq_eq_false_iff_ne]; omega
    have HS := Lib.hid H3
    have HT := Lib.hid H5
    clear H1 H2 H3 H4 H5
    by_cases ha : ka / 65536 < 9223372036854
    · have w2 := HS.out ho ha
      by_cases hb : kb / 65536 ≤ 9223372036854
      · have w3 : (db - da != (kb / 65536 - ka / 65536) * 1000000) = false := by rw [bne_eq_false_iff_eq]; exact HT.out (by omega) hb
        go_wp2
        go_ret
        exact ⟨rfl, below_drewN FIN.out _⟩
      · go_wp2
        go_ret
        exact ⟨rfl, below_drewN FIN.out _⟩
    · have hb : ¬ kb / 65536 ≤ 9223372036854 := by omega
      go_wp2
      all_goals go_ret
      all_goals exact ⟨rfl, below_drewN FIN.out _⟩
  · have w1 := H1 (by omega)
    have w2 := H2 (by omega)
    have eqb : (ka / 65536 == kb / 65536) = true := by rw [beq_iff_eq]; omega
    have eqd : (da != db) = false := by rw [bne_eq_false_iff_eq]; omega
    have o1 : ka / 65536 ≤ kb / 65536 := by omega
    have o2 : kb / 65536 ≤ ka / 65536 := by omega
    have HT := Lib.hid H5
    clear H1 H2 H3 H4 H5 ho
    by_cases hb : kb / 65536 ≤ 9223372036854
    · have ha : ka / 65536 ≤ 9223372036854 := by omega
      have w3 : (db - da != (kb / 65536 - ka / 65536) * 1000000) = false := by rw [bne_eq_false_iff_eq]; exact HT.out (by omega) hb
      go_wp2
      go_ret
      exact ⟨rfl, below_drewN FIN.out _⟩
    · have ha : ¬ ka / 65536 ≤ 9223372036854 := by omega
      go_wp2
      go_ret
      exact ⟨rfl, below_drewN FIN.out _⟩
  · have w1 := H2 (by omega)
    have eqb : (ka / 65536 == kb / 65536) = false := by rw [beq_eq_false_iff_ne]; omega
    have HS := Lib.hid H4
    have HT := Lib.hid H5
    clear H1 H2 H3 H4 H5
    by_cases hb : kb / 65536 < 9223372036854
    · have w2 := HS.out ho hb
      by_cases ha : ka / 65536 ≤ 9223372036854
      · have w3 : (db - da != (kb / 65536 - ka / 65536) * 1000000) = false := by rw [bne_eq_false_iff_eq]; exact HT.out ha (by omega)
        go_wp2
        go_ret
        exact ⟨rfl, below_drewN FIN.out _⟩
      · go_wp2
        go_ret
        exact ⟨rfl, below_drewN FIN.out _⟩
    · have ha : ¬ ka / 65536 ≤ 9223372036854 := by omega
      go_wp2
      all_goals go_ret
      all_goals exact ⟨rfl, below_drewN FIN.out _⟩
end Go.Proofs.Qxb6616828a
