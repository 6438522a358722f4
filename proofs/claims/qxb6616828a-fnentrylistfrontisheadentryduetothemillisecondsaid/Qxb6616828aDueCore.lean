/-
  THE LAW's WALK behind its checks: 'FnEntryListFrontIsHeadEntryDueToTheMillisecond' returns true.
-/
import Derived.Test.Qxb6616828aSecondRegion
import Derived.Test.Qxb6616828aDue
namespace Go.Proofs.Qxb6616828a
open Go.RowKit

/-- The stored entry's block. -/
theorem stored {W1 W : World} {g : Nat} {a b c d e : Value} (hb : W1.heap[g]? = some (.cells zero31 31 (0, 0)))
    (hW : W = ((((W1.setCell ⟨g, 0, none⟩ a).setCell ⟨g, 1, none⟩ b).setCell ⟨g, 2, none⟩ c).setCell ⟨g, 3, none⟩ d).setCell ⟨g, 4, none⟩ e) : W.heap[g]? = some (.cells #[a, b, c, d, e] 31 (0, 0)) := by
  subst hW
  simp [World.setCell, Array.getElem?_modify, hb, zero31]

/-- The frame, written out. -/
theorem frame148 (f : Nat → Value) : ((List.range 148).map f).toArray = #[f 0, f 1, f 2, f 3, f 4, f 5, f 6, f 7, f 8, f 9, f 10, f 11, f 12, f 13, f 14, f 15, f 16, f 17, f 18, f 19, f 20, f 21, f 22, f 23, f 24, f 25, f 26, f 27, f 28, f 29, f 30, f 31, f 32, f 33, f 34, f 35, f 36, f 37, f 38, f 39, f 40, f 41, f 42, f 43, f 44, f 45, f 46, f 47, f 48, f 49, f 50, f 51, f 52, f 53, f 54, f 55, f 56, f 57, f 58, f 59, f 60, f 61, f 62, f 63, f 64, f 65, f 66, f 67, f 68, f 69, f 70, f 71, f 72, f 73, f 74, f 75, f 76, f 77, f 78, f 79, f 80, f 81, f 82, f 83, f 84, f 85, f 86, f 87, f 88, f 89, f 90, f 91, f 92, f 93, f 94, f 95, f 96, f 97, f 98, f 99, f 100, f 101, f 102, f 103, f 104, f 105, f 106, f 107, f 108, f 109, f 110, f 111, f 112, f 113, f 114, f 115, f 116, f 117, f 118, f 119, f 120, f 121, f 122, f 123, f 124, f 125, f 126, f 127, f 128, f 129, f 130, f 131, f 132, f 133, f 134, f 135, f 136, f 137, f 138, f 139, f 140, f 141, f 142, f 143, f 144, f 145, f 146, f 147] := by kernel_rfl

set_option maxHeartbeats 4000000 in
set_option maxRecDepth 100000 in
theorem due_core (w : World) (o0 o1 o2 o3 o4 : Option Addr) (n c0 c1 c2 c3 c4 : Nat) (A0 A1 A2 A3 A4 : Nat → Option Addr) (L C0 C1 C2 C3 C4 : Nat → Nat) (Z0 Z1 Z2 Z3 Z4 : Nat → Nat → Int) (h : Nat) (m : Int)
    (g0 : Grid w o0 n A0 L C0 Z0) (g1 : Grid w o1 n A1 L C1 Z1) (g2 : Grid w o2 n A2 L C2 Z2) (g3 : Grid w o3 n A3 L C3 Z3) (g4 : Grid w o4 n A4 L C4 Z4)
    (hn1 : 1 ≤ n) (hn2 : n ≤ 1048576) (hL : ∀ r, r < n → L r ≤ 4096) (hh : h + 1 ≤ L 0)
    (k5 : Hid (Calls Try.prog 5 #[.slice o0 n c0, .slice o1 n c1, .slice o2 n c2, .slice o3 n c3, .slice o4 n c4, .int .i64 (h : Int), .int .i64 m] w fun e w' => ∃ b : Bool, e = .returned (.bool b) ∧ w' = w))
    (k6 : Hid (Calls Try.prog 6 #[.slice o0 n c0, .slice o1 n c1, .slice o2 n c2, .slice o3 n c3, .slice o4 n c4] w fun e w' => ∃ b : Bool, e = .returned (.bool b) ∧ w' = w))
    (k7 : Hid (Calls Try.prog 7 #[.slice o0 n c0, .slice o1 n c1, .slice o2 n c2, .slice o3 n c3, .slice o4 n c4, .int .i64 (h : Int), .int .i64 m, .int .i64 1] w fun e w' => ∃ b : Bool, e = .returned (.bool b) ∧ w' = w)) :
    Calls Try.prog 3 #[.slice o0 n c0, .slice o1 n c1, .slice o2 n c2, .slice o3 n c3, .slice o4 n c4, .int .i64 (h : Int), .int .i64 m] w fun e w' => e = .returned (.bool true) ∧ Below w.heap.size w w' := by
  have h4 := hL 0 hn1
  have a3 := g3.bd 0 hn1 h (by omega)
  have a4 := g4.bd 0 hn1 h (by omega)
  have N1 := Lib.hid (new_any w o0 o1 o2 o3 o4 n c0 c1 c2 c3 c4 A0 A1 A2 A3 A4 L C0 C1 C2 C3 C4 Z0 Z1 Z2 Z3 Z4 h m g0 g1 g2 g3 g4 hn1 hn2 hL (by omega))
  obtain ⟨x0, y0, p0, i0, rfl, u0, v0, t0, d0⟩ := g0.first hn1 (by omega)
  obtain ⟨x1, y1, p1, i1, rfl, u1, v1, t1, d1⟩ := g1.first hn1 (by omega)
  obtain ⟨x2, y2, p2, i2, rfl, u2, v2, t2, d2⟩ := g2.first hn1 (by omega)
  obtain ⟨x3, y3, p3, i3, rfl, u3, v3, t3, d3⟩ := g3.first hn1 (by omega)
  obtain ⟨x4, y4, p4, i4, rfl, u4, v4, t4, d4⟩ := g4.first hn1 (by omega)
  obtain ⟨D, hD⟩ : ∃ D : Src, D = { n := n, l := L 0, h := h, x := fun | 0 => x0 | 1 => x1 | 2 => x2 | 3 => x3 | _ => x4, y := fun | 0 => y0 | 1 => y1 | 2 => y2 | 3 => y3 | _ => y4, c := fun | 0 => c0 | 1 => c1 | 2 => c2 | 3 => c3 | _ => c4, p := fun | 0 => p0 | 1 => p1 | 2 => p2 | 3 => p3 | _ => p4, q := fun | 0 => i0 | 1 => i1 | 2 => i2 | 3 => i3 | _ => i4, e := fun | 0 => C0 0 | 1 => C1 0 | 2 => C2 0 | 3 => C3 0 | _ => C4 0, z := fun | 0 => Z0 0 | 1 => Z1 0 | 2 => Z2 0 | 3 => Z3 0 | _ => Z4 0 } := ⟨_, rfl⟩
  have RD : Hid (∀ (W : World) (a : Act), Below w.heap.size w W → a.tmps.size = 148 → (∀ k, k < 5 → a.tmps.getD k undef = .slice (some ⟨D.x k, D.y k, none⟩) D.n (D.c k)) → a.tmps.getD 5 undef = .int .i64 (h : Int) → a.tmps.getD 16 undef = .int .i64 ((h : Int) + 1) → Ready D a W) := by
    intro W a hW hs ha h5 h16
    subst hD
    refine ⟨hn1, hn2, h4, hh, ?_, ?_, ?_, ?_, hs, ha, h5, h16⟩
    · intro k hk
      match k, hk with
      | 0, _ => exact g0.cap 0 hn1
      | 1, _ => exact g1.cap 0 hn1
      | 2, _ => exact g2.cap 0 hn1
      | 3, _ => exact g3.cap 0 hn1
      | 4, _ => exact g4.cap 0 hn1
    · intro k hk
      match k, hk with
      | 0, _ => exact (hW.cell (p := ⟨x0, y0, none⟩) u0).trans t0
      | 1, _ => exact (hW.cell (p := ⟨x1, y1, none⟩) u1).trans t1
      | 2, _ => exact (hW.cell (p := ⟨x2, y2, none⟩) u2).trans t2
      | 3, _ => exact (hW.cell (p := ⟨x3, y3, none⟩) u3).trans t3
      | 4, _ => exact (hW.cell (p := ⟨x4, y4, none⟩) u4).trans t4
    · intro k hk c hc
      match k, hk with
      | 0, _ => exact (hW.cell (p := ⟨p0, i0 + c, none⟩) v0).trans (d0 c hc)
      | 1, _ => exact (hW.cell (p := ⟨p1, i1 + c, none⟩) v1).trans (d1 c hc)
      | 2, _ => exact (hW.cell (p := ⟨p2, i2 + c, none⟩) v2).trans (d2 c hc)
      | 3, _ => exact (hW.cell (p := ⟨p3, i3 + c, none⟩) v3).trans (d3 c hc)
      | 4, _ => exact (hW.cell (p := ⟨p4, i4 + c, none⟩) v4).trans (d4 c hc)
    · intro k hk c hc
      match k, hk with
      | 0, _ => exact g0.bd 0 hn1 c hc
      | 1, _ => exact g1.bd 0 hn1 c hc
      | 2, _ => exact g2.bd 0 hn1 c hc
      | 3, _ => exact g3.bd 0 hn1 c hc
      | 4, _ => exact g4.bd 0 hn1 c hc
  have DX : Hid (D.x 0 = x0 ∧ D.x 1 = x1 ∧ D.x 2 = x2 ∧ D.x 3 = x3 ∧ D.x 4 = x4 ∧ D.y 0 = y0 ∧ D.y 1 = y1 ∧ D.y 2 = y2 ∧ D.y 3 = y3 ∧ D.y 4 = y4 ∧ D.c 0 = c0 ∧ D.c 1 = c1 ∧ D.c 2 = c2 ∧ D.c 3 = c3 ∧ D.c 4 = c4 ∧ D.n = n) := by subst hD; exact ⟨rfl, rfl, rfl, rfl, rfl, rfl, rfl, rfl, rfl, rfl, rfl, rfl, rfl, rfl, rfl, rfl⟩
  have DZ : Hid (D.z 0 D.h = Z0 0 h ∧ D.z 1 D.h = Z1 0 h ∧ D.z 2 D.h = Z2 0 h ∧ D.z 3 D.h = Z3 0 h ∧ D.z 4 D.h = Z4 0 h ∧ D.h = h) := by subst hD; exact ⟨rfl, rfl, rfl, rfl, rfl, rfl⟩
  clear hD g0 g1 g2 g3 g4 hL
  have q0 := d0 h (by omega)
  have q1 := d1 h (by omega)
  have q2 := d2 h (by omega)
  have q3 := d3 h (by omega)
  have q4 := d4 h (by omega)
  clear d0 d1 d2 d3 d4
  generalize Z0 0 h = s0 at *
  generalize Z1 0 h = s1 at *
  generalize Z2 0 h = s2 at *
  generalize Z3 0 h = s3 at *
  generalize Z4 0 h = s4 at *
  generalize L 0 = l at *
  generalize C0 0 = e0 at *
  generalize C1 0 = e1 at *
  generalize C2 0 = e2 at *
  generalize C3 0 = e3 at *
  generalize C4 0 = e4 at *
  have kA := keyOf_bd a3.1 a3.2 a4.1 a4.2
  have FA := Lib.hid (fun p W H => zzfront_any p h s0 s1 s2 s3 s4 W H a3.1 a3.2 a4.1 a4.2)
  have KA := Lib.hid (fun W => zzkey_any s3 s4 W a3.1 a3.2 a4.1 a4.2)
  have DU := Lib.hid (fun W => dueIs_any (keyOf s3 s4 / 65536) W (by omega) (by omega))
  clear a3 a4
  unfold entryOf at FA
  go_enter Try.func3, Try.ntmps3
  go_wp2_with fail
  refine k5.out.mono ?_
  rintro e w' ⟨b, rfl, hw⟩
  subst w'
  cases b
  case false =>
    go_wp2
    go_ret
    exact ⟨rfl, Below.refl _ _⟩
  go_wp2_with fail
  refine k6.out.mono ?_
  rintro e w' ⟨b, rfl, hw⟩
  subst w'
  cases b
  case true =>
    go_wp2
    go_ret
    exact ⟨rfl, Below.refl _ _⟩
  go_wp2_with fail
  refine k7.out.mono ?_
  rintro e w' ⟨b, rfl, hw⟩
  subst w'
  cases b
  case false =>
    go_wp2
    go_ret
    exact ⟨rfl, Below.refl _ _⟩
  go_wp2_with fail
  refine N1.out.mono ?_
  rintro e w1 ⟨P1, rfl, B1, F1⟩
  go_wp2_with fail
  refine (FA.out P1 w1 F1).mono ?_
  rintro e w2 ⟨rfl, B2⟩
  have B12 : Below w.heap.size w w2 := B1.trans (B2.mono B1.size)
  clear B1 B2 F1 k5 k6 k7 N1 FA
  go_wp2_with fail
  have B12a : Below w.heap.size w (w2.alloc (.cells #[.int .u32 s0, .int .u32 s1, .int .u32 s2, .int .u16 (keyOf s3 s4 % 65536), .int .i64 (dueOf (keyOf s3 s4 / 65536))] 31)) := B12.alloc (by have := B12.size; omega) _
  have hmx : Try.prog.follows .mixedOrders = true := by kernel_rfl
  refine second_region D (by kernel_rfl) (by kernel_rfl) (by kernel_rfl) (by kernel_rfl) hmx (RD.out _ _ B12a.drew rfl ?_ rfl rfl) ?_
  · obtain ⟨ex0, ex1, ex2, ex3, ex4, ey0, ey1, ey2, ey3, ey4, ec0, ec1, ec2, ec3, ec4, en⟩ := DX.out
    intro k hk
    match k, hk with
    | 0, _ => rw [ex0, ey0, ec0, en]; rfl
    | 1, _ => rw [ex1, ey1, ec1, en]; rfl
    | 2, _ => rw [ex2, ey2, ec2, en]; rfl
    | 3, _ => rw [ex3, ey3, ec3, en]; rfl
    | 4, _ => rw [ex4, ey4, ec4, en]; rfl
  intro f g W hf h17 hN hgW hG hex
  rw [frame148]
  dsimp only
  have f0 := hf 0 (by omega) (by omega)
  have f1 := hf 1 (by omega) (by omega)
  have f2 := hf 2 (by omega) (by omega)
  have f3 := hf 3 (by omega) (by omega)
  have f4 := hf 4 (by omega) (by omega)
  have f5 := hf 5 (by omega) (by omega)
  have f14 := hf 14 (by omega) (by omega)
  have f15 := hf 15 (by omega) (by omega)
  simp at f0 f1 f2 f3 f4 f5 f14 f15
  rw [f0, f1, f2, f3, f4, f5, f14, f15, h17]
  clear hf f0 f1 f2 f3 f4 f5 f14 f15 h17 RD DX
  obtain ⟨z0, z1, z2, z3, z4, eh⟩ := DZ.out
  rw [z0, z1, z2, z3, z4] at hex
  clear z0 z1 z2 z3 z4 eh DZ D
  obtain ⟨W1, hW, hb⟩ := hex
  have hblk := stored hb hW
  clear hW hb W1
  have BW : Below w.heap.size w W := B12a.trans (Below.mono hG (Nat.le_trans B12a.size (Nat.le_refl _)))
  have hcA : ∀ j v, (w2.alloc (.cells #[.int .u32 s0, .int .u32 s1, .int .u32 s2, .int .u16 (keyOf s3 s4 % 65536), .int .i64 (dueOf (keyOf s3 s4 / 65536))] 31)).cell? ⟨w2.heap.size, j, none⟩ = some v → W.cell? ⟨w2.heap.size, j, none⟩ = some v := fun j v hv => hG.cell hv
  have e0' := hcA 0 (.int .u32 s0) (by simp)
  have e1' := hcA 1 (.int .u32 s1) (by simp)
  have e2' := hcA 2 (.int .u32 s2) (by simp)
  have e3' := hcA 3 (.int .u16 (keyOf s3 s4 % 65536)) (by simp)
  have e4' := hcA 4 (.int .i64 (dueOf (keyOf s3 s4 / 65536))) (by simp)
  have b0' : W.cell? ⟨g, 0, none⟩ = some (.int .u32 s0) := by simp [World.cell?, hblk]
  have b1' : W.cell? ⟨g, 1, none⟩ = some (.int .u32 s1) := by simp [World.cell?, hblk]
  have b2' : W.cell? ⟨g, 2, none⟩ = some (.int .u32 s2) := by simp [World.cell?, hblk]
  have b3' : W.cell? ⟨g, 3, none⟩ = some (.int .u16 (keyOf s3 s4 % 65536)) := by simp [World.cell?, hblk]
  have b4' : W.cell? ⟨g, 4, none⟩ = some (.int .i64 (dueOf (keyOf s3 s4 / 65536))) := by simp [World.cell?, hblk]
  have t0' := (BW.cell (p := ⟨x0, y0, none⟩) u0).trans t0
  have q0' := (BW.cell (p := ⟨p0, i0 + h, none⟩) v0).trans q0
  clear t0 q0 u0 v0
  have t1' := (BW.cell (p := ⟨x1, y1, none⟩) u1).trans t1
  have q1' := (BW.cell (p := ⟨p1, i1 + h, none⟩) v1).trans q1
  clear t1 q1 u1 v1
  have t2' := (BW.cell (p := ⟨x2, y2, none⟩) u2).trans t2
  have q2' := (BW.cell (p := ⟨p2, i2 + h, none⟩) v2).trans q2
  clear t2 q2 u2 v2
  have t3' := (BW.cell (p := ⟨x3, y3, none⟩) u3).trans t3
  have q3' := (BW.cell (p := ⟨p3, i3 + h, none⟩) v3).trans q3
  clear t3 q3 u3 v3
  have t4' := (BW.cell (p := ⟨x4, y4, none⟩) u4).trans t4
  have q4' := (BW.cell (p := ⟨p4, i4 + h, none⟩) v4).trans q4
  clear t4 q4 u4 v4
  have FIN := Lib.hid BW
  have hl1 : (h : Int) < l := by omega
  have hn' : (0 : Int) < n := by omega
  clear hcA hblk BW B12 B12a hG hN hgW
  have mA := and_mask (keyOf s3 s4) kA.1 kA.2
  generalize dueOf (keyOf s3 s4 / 65536) = da at *
  generalize keyOf s3 s4 = ka at *
  obtain ⟨kA0, kA1⟩ := kA
  go_wp2_with fail
  go_quiet (fail)
  go_wp2_with fail
  go_quiet ((go_at_call 10; refine (KA.out _).mono ?_; rintro e w'' ⟨rfl, hw⟩; exact ⟨rfl, _, hw⟩))
  go_wp2_with (go_at_call 11; refine (DU.out _).mono ?_; rintro e w'' ⟨rfl, hw⟩; subst w'')
  go_ret
  exact ⟨rfl, below_drewN FIN.out _⟩
end Go.Proofs.Qxb6616828a
