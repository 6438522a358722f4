/-
  'ZZnewEntryList', walked.
-/
import Derived.Test.Qxb6616828aNew
import Derived.StillTailTactics
import Derived.Lib.Hide
namespace Go.Proofs.Qxb6616828a
open Go.RowKit

set_option maxHeartbeats 2000000 in
set_option maxRecDepth 100000 in
theorem new_any (w : World) (o0 o1 o2 o3 o4 : Option Addr) (n c0 c1 c2 c3 c4 : Nat) (A0 A1 A2 A3 A4 : Nat → Option Addr) (L C0 C1 C2 C3 C4 : Nat → Nat) (Z0 Z1 Z2 Z3 Z4 : Nat → Nat → Int) (h : Nat) (m : Int)
    (g0 : Grid w o0 n A0 L C0 Z0) (g1 : Grid w o1 n A1 L C1 Z1) (g2 : Grid w o2 n A2 L C2 Z2) (g3 : Grid w o3 n A3 L C3 Z3) (g4 : Grid w o4 n A4 L C4 Z4)
    (hn1 : 1 ≤ n) (hn2 : n ≤ 1048576) (hL : ∀ r, r < n → L r ≤ 4096) (hh : h < L 0) :
    Calls Try.prog 9 #[.slice o0 n c0, .slice o1 n c1, .slice o2 n c2, .slice o3 n c3, .slice o4 n c4, .int .i64 (h : Int), .int .i64 m] w fun e w' =>
      ∃ p, e = .returned (.pointer (some ⟨p, 0, none⟩)) ∧ Below w.heap.size w w' ∧ HasFront w' p h (Z0 0 h) (Z1 0 h) (Z2 0 h) (Z3 0 h) (Z4 0 h) := by
  have hm0 := make_rows n hn2
  go_enter Try.func9, Try.ntmps9
  go_wp2
  clear hm0
  go_loopw [24] (fun i wr => ∃ k : Nat, k ≤ n ∧ i = .int .i64 k ∧ Outer w wr n k (L 0) (Z0 0) (Z1 0) (Z2 0) (Z3 0) (Z4 0)) (fun i _ => n - (intOf i).toNat)
  case atStart => exact ⟨0, Nat.zero_le _, rfl, Outer.start w n (L 0) _ _ _ _ _⟩
  case round =>
    obtain ⟨k, hk, rfl, O⟩ := hrel
    obtain ⟨wo, hwo⟩ : ∃ x, x = wr := ⟨_, rfl⟩
    subst hwo
    by_cases hlt : k < n
    case pos =>
      obtain ⟨b0, f0, rfl, s0, t0⟩ := (g0.below O.below).top k hlt
      obtain ⟨b1, f1, rfl, s1, t1⟩ := (g1.below O.below).top k hlt
      obtain ⟨b2, f2, rfl, s2, t2⟩ := (g2.below O.below).top k hlt
      obtain ⟨b3, f3, rfl, s3, t3⟩ := (g3.below O.below).top k hlt
      obtain ⟨b4, f4, rfl, s4, t4⟩ := (g4.below O.below).top k hlt
      have hLk := hL k hlt
      have hm1 := make_packed (L k) hLk
      have hsz := O.size
      have HSZ : Hid (wo.heap.size = w.heap.size + 1 + k) := hsz
      clear hsz
      go_wp2
      clear hm1
      go_loopw [38] (fun j wi => ∃ q : Nat, q ≤ L k ∧ j = .int .i64 q ∧ Inner wo wi wo.heap.size (L k) q (Z0 k) (Z1 k) (Z2 k) (Z3 k) (Z4 k)) (fun j _ => L k - (intOf j).toNat)
      case atStart => exact ⟨0, Nat.zero_le _, rfl, Inner.start wo (L k) _ _ _ _ _⟩
      case round =>
        obtain ⟨q, hq, rfl, I⟩ := hrel
        by_cases hqt : q < L k
        case pos =>
          obtain ⟨p0, i0, e0, x0, y0⟩ := (g0.below O.below).num k hlt q hqt
          obtain ⟨p1, i1, e1, x1, y1⟩ := (g1.below O.below).num k hlt q hqt
          obtain ⟨p2, i2, e2, x2, y2⟩ := (g2.below O.below).num k hlt q hqt
          obtain ⟨p3, i3, e3, x3, y3⟩ := (g3.below O.below).num k hlt q hqt
          obtain ⟨p4, i4, e4, x4, y4⟩ := (g4.below O.below).num k hlt q hqt
          rw [e0] at t0
          rw [e1] at t1
          rw [e2] at t2
          rw [e3] at t3
          rw [e4] at t4
          have u0 := (I.below.cell (p := ⟨b0, f0 + k, none⟩) s0).trans t0
          have u1 := (I.below.cell (p := ⟨b1, f1 + k, none⟩) s1).trans t1
          have u2 := (I.below.cell (p := ⟨b2, f2 + k, none⟩) s2).trans t2
          have u3 := (I.below.cell (p := ⟨b3, f3 + k, none⟩) s3).trans t3
          have u4 := (I.below.cell (p := ⟨b4, f4 + k, none⟩) s4).trans t4
          have v0 := (I.below.cell (p := ⟨p0, i0 + q, none⟩) x0).trans y0
          have v1 := (I.below.cell (p := ⟨p1, i1 + q, none⟩) x1).trans y1
          have v2 := (I.below.cell (p := ⟨p2, i2 + q, none⟩) x2).trans y2
          have v3 := (I.below.cell (p := ⟨p3, i3 + q, none⟩) x3).trans y3
          have v4 := (I.below.cell (p := ⟨p4, i4 + q, none⟩) x4).trans y4
          obtain ⟨f, hrow, hF⟩ := I.row
          have k0 := hrow.cell (i := q * 5) (by omega)
          have k1 := hrow.cell (i := q * 5 + 1) (by omega)
          have k2 := hrow.cell (i := q * 5 + 2) (by omega)
          have k3 := hrow.cell (i := q * 5 + 3) (by omega)
          have k4 := hrow.cell (i := q * 5 + 4) (by omega)
          have z0 := hrow.frozen (q * 5)
          have z1 := hrow.frozen (q * 5 + 1)
          have z2 := hrow.frozen (q * 5 + 2)
          have z3 := hrow.frozen (q * 5 + 3)
          have z4 := hrow.frozen (q * 5 + 4)
          have hlt' : (k : Int) < n := by omega
          have hqt' : (q : Int) < L k := by omega
          have HI := I.step
          clear hrow hF e0 e1 e2 e3 e4 x0 x1 x2 x3 x4 y0 y1 y2 y3 y4 t0 t1 t2 t3 t4 s0 s1 s2 s3 s4 g0 g1 g2 g3 g4 O hL I
          go_wp2_with fail
          have hmx : Try.prog.follows .mixedOrders = true := by kernel_rfl
          have HI' := Lib.hid HI
          clear HI
          go_still_tail 40, hmx
          clear u0 u1 u2 u3 u4 v0 v1 v2 v3 v4
          go_wp2
          go_roundw
          case rel => exact ⟨q + 1, by omega, by go_num, HI'.out.drewN 1⟩
          case measure => simp [intOf]; omega
        have hqe : q = L k := by omega
        subst hqe
        obtain ⟨f, hrow, hF⟩ := O.row
        have hrowi := hrow.of_block (I.below.block w.heap.size (by have := HSZ.out; omega))
        have kc := hrowi.cell (i := k) hlt
        have kz := hrowi.frozen k
        have ON := Lib.hid (O.step I (fun e => by subst e; exact ⟨rfl, rfl, rfl, rfl, rfl, rfl⟩))
        clear hrow hrowi hF O I t0 t1 t2 t3 t4
        go_wp2
        go_roundw
        case rel => exact ⟨k + 1, by omega, by go_num, ON.out⟩
        case measure => simp [intOf]; omega
    have hke : k = n := by omega
    subst hke
    have FR := Lib.hid (O.front hn1 hn2 (hL 0 hn1) hh m)
    have FB := Lib.hid (O.below.alloc (by have := O.size; omega) (.cells #[.slice (some ⟨w.heap.size, 0, none⟩) k k, .int .i64 (h : Int), .int .i64 m] 47))
    clear O g0 g1 g2 g3 g4 hL
    go_wp2
    go_ret
    exact ⟨wo.heap.size, rfl, FB.out, FR.out⟩
end Go.Proofs.Qxb6616828a
