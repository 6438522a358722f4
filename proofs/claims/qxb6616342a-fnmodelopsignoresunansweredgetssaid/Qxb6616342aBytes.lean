/-
  A slice of one-cell values as the walks see it; 'zzBytes_..': the bound on total length.
-/
import Derived.Test.Qxb6616342aValid
namespace Go.Proofs.Qxb6616342a
open Go.RowKit

/-- A slice '.slice ao n cap' whose k-th cell holds X k. -/
structure Row (w : World) (ao : Option Addr) (n : Nat) (X : Nat → Value) : Prop where
  len : n ≤ 9223372036854775807
  cells : ∀ k, k < n → ∃ b off, ao = some ⟨b, off, none⟩ ∧ b < w.heap.size ∧ w.cell? ⟨b, off + k, none⟩ = some (X k)

theorem Row.below {w w' : World} {ao : Option Addr} {n : Nat} {X : Nat → Value} (h : Row w ao n X) (hb : Below w.heap.size w w') : Row w' ao n X :=
  ⟨h.len, fun k hk => by
    obtain ⟨b, off, e, hs, hc⟩ := h.cells k hk
    exact ⟨b, off, e, by have := hb.size; omega, (hb.cell (p := ⟨b, off + k, none⟩) hs).trans hc⟩⟩

theorem Row.drew {w : World} {ao : Option Addr} {n : Nat} {X : Nat → Value} (h : Row w ao n X) : Row w.drew ao n X := ⟨h.len, h.cells⟩

theorem small_step {S : Nat → ByteArray} {k : Nat} (h : Hid (∀ r, r < k → (S r).size ≤ 1048576)) (hk : (S k).size ≤ 1048576) : ∀ r, r < k + 1 → (S r).size ≤ 1048576 := fun r hr => by
  rcases Nat.lt_or_ge r k with h1 | h1
  · exact h.out r h1
  · obtain rfl : r = k := by omega
    exact hk

set_option maxHeartbeats 2000000 in
set_option maxRecDepth 100000 in
theorem bytes_any (w : World) (o0 o1 o2 o3 o4 o5 : Option Addr) (n0 n1 n2 n3 n4 n5 c0 c1 c2 c3 c4 c5 : Nat) (S : Nat → ByteArray) (at_ gc : Int) (g : ByteArray) (gl : Int)
    (h2 : Row w o2 n2 (fun k => .string (S k))) (l0 : n0 ≤ 9223372036854775807) (l1 : n1 ≤ 9223372036854775807) (l3 : n3 ≤ 9223372036854775807) (l4 : n4 ≤ 9223372036854775807) (l5 : n5 ≤ 9223372036854775807) (hg : g.size ≤ 9223372036854775807) (hS : ∀ k, k < n2 → (S k).size ≤ 9223372036854775807) :
    Calls Try.prog 4 #[.slice o0 n0 c0, .slice o1 n1 c1, .slice o2 n2 c2, .slice o3 n3 c3, .slice o4 n4 c4, .slice o5 n5 c5, .int .i64 at_, .int .i64 gc, .string g, .int .i64 gl] w fun e w' =>
      (e = .returned (.bool false) ∨ (e = .returned (.bool true) ∧ (∀ k, k < n2 → (S k).size ≤ 1048576) ∧ g.size ≤ 1048576)) ∧ w' = w := by
  have l2 := h2.len
  have HS := Lib.hid hS
  have H2 := Lib.hid h2
  clear h2 hS
  go_enter Try.func4, Try.ntmps4
  go_wp2
  all_goals try (go_ret; exact ⟨Or.inl rfl, rfl⟩)
  go_loopg [21, 22] n2 (fun gh z i wr => ∃ (k : Nat) (x : Int), k ≤ n2 ∧ gh = n2 - k ∧ i = .int .i64 k ∧ z = .int .i64 x ∧ 0 ≤ x ∧ x ≤ 1048576 ∧ wr = w ∧ ∀ r, r < k → (S r).size ≤ 1048576)
  case atStart => exact ⟨0, _, Nat.zero_le _, rfl, rfl, rfl, by omega, by omega, rfl, fun r hr => by omega⟩
  case round =>
    obtain ⟨k, x, hk, rfl, rfl, rfl, hx0, hx1, rfl, hL⟩ := hrel
    have HL := Lib.hid hL
    clear hL
    by_cases hlt : k < n2
    case pos =>
      obtain ⟨b, off, rfl, hbs, hc⟩ := H2.out.cells k hlt
      have hr := HS.out k hlt
      clear H2
      by_cases t1 : (S k).size ≤ 1048576
      case neg =>
        go_wp2
        go_ret
        exact ⟨Or.inl rfl, rfl⟩
      go_wp2
      all_goals first
        | (go_ret; exact ⟨Or.inl rfl, rfl⟩)
        | (go_roundg (n2 - (k + 1))
           case measure => omega
           case rel => exact ⟨k + 1, _, by omega, rfl, by go_num, rfl, by omega, by omega, rfl, small_step HL t1⟩)
    have F := Lib.hid (fun r (hr : r < n2) => HL.out r (by omega))
    clear HL H2 HS
    go_wp2
    all_goals go_ret
    all_goals first
      | exact ⟨Or.inl rfl, rfl⟩
      | exact ⟨Or.inr ⟨rfl, F.out, by omega⟩, rfl⟩
end Go.Proofs.Qxb6616342a
