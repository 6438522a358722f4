/-
  A slice of slices of uint32 with its numbers; how it stays while the call makes memory of its own.
-/
import Derived.Test.Qxb6616828aSizes
import Derived.Test.Qxb6616828aFront
import Derived.Deep.OwnRows
namespace Go.Proofs.Qxb6616828a
open Go.RowKit

/-- The numbers too: row r's c-th is Z r c. -/
structure Grid (w : World) (ao : Option Addr) (n : Nat) (A : Nat → Option Addr) (L C : Nat → Nat) (Z : Nat → Nat → Int) : Prop where
  len : n ≤ 9223372036854775807
  row : ∀ r, r < n → L r ≤ 9223372036854775807
  top : ∀ r, r < n → ∃ b off, ao = some ⟨b, off, none⟩ ∧ b < w.heap.size ∧ w.cell? ⟨b, off + r, none⟩ = some (.slice (A r) (L r) (C r))
  num : ∀ r, r < n → ∀ c, c < L r → ∃ b off, A r = some ⟨b, off, none⟩ ∧ b < w.heap.size ∧ w.cell? ⟨b, off + c, none⟩ = some (.int .u32 (Z r c))
  bd : ∀ r, r < n → ∀ c, c < L r → 0 ≤ Z r c ∧ Z r c ≤ 4294967295
  cap : ∀ r, r < n → L r ≤ C r

theorem Grid.tops {w : World} {ao : Option Addr} {n : Nat} {A : Nat → Option Addr} {L C : Nat → Nat} {Z : Nat → Nat → Int} (h : Grid w ao n A L C Z) : Tops w ao n A L C :=
  ⟨h.len, h.row, fun r hr => by obtain ⟨b, off, e, _, hc⟩ := h.top r hr; exact ⟨b, off, e, hc⟩⟩

theorem Grid.below {w w' : World} {ao : Option Addr} {n : Nat} {A : Nat → Option Addr} {L C : Nat → Nat} {Z : Nat → Nat → Int} (h : Grid w ao n A L C Z) (hb : Below w.heap.size w w') : Grid w' ao n A L C Z :=
  ⟨h.len, h.row, fun r hr => by obtain ⟨b, off, e, hs, hc⟩ := h.top r hr; exact ⟨b, off, e, by have := hb.size; omega, (hb.cell (p := ⟨b, off + r, none⟩) hs).trans hc⟩,
    fun r hr c hc => by obtain ⟨b, off, e, hs, hv⟩ := h.num r hr c hc; exact ⟨b, off, e, by have := hb.size; omega, (hb.cell (p := ⟨b, off + c, none⟩) hs).trans hv⟩, h.bd, h.cap⟩

theorem infoPacked : (Try.prog.info? 45).map (fun i => (i.zero, i.size, i.bytes)) = some (some (.agg #[.int .u32 0, .int .u32 0, .int .u32 0, .int .u32 0, .int .u32 0]), 5, 20) := by kernel_rfl
theorem infoRow : (Try.prog.info? 43).map (fun i => (i.zero, i.size, i.bytes)) = some (some (.slice none 0 0), 1, 24) := by kernel_rfl

/-- 'make([]packed, n)'. -/
theorem make_packed (n : Nat) (hn : n ≤ 4096) (w : World) : (Instr.makeSlice 43 (.int .i64 (n : Int)) (.int .i64 (n : Int))).run Try.prog w = .ok (.slice (some ⟨w.heap.size, 0, none⟩) n n) (w.alloc (.cells (madeCells #[.int .u32 0, .int .u32 0, .int .u32 0, .int .u32 0, .int .u32 0] (n * 5)) 45)) := by
  obtain ⟨i0, hi, hz0, hz1, hz2⟩ := info_parts infoPacked
  have h := run_make (P := Try.prog) w 43 45 i0 _ Try.underlying43 hi hz0 .i64 .i64 (n : Int) (n : Int) (by omega) (by omega) (by rw [hz2]; omega) (by omega)
  rw [hz1, Int.toNat_natCast] at h
  exact h

/-- 'make([][]packed, n)'. -/
theorem make_rows (n : Nat) (hn : n ≤ 1048576) (w : World) : (Instr.makeSlice 42 (.int .i64 (n : Int)) (.int .i64 (n : Int))).run Try.prog w = .ok (.slice (some ⟨w.heap.size, 0, none⟩) n n) (w.alloc (.cells (madeCells #[.slice none 0 0] n) 43)) := by
  obtain ⟨i0, hi, hz0, hz1, hz2⟩ := info_parts infoRow
  have h := run_make (P := Try.prog) w 42 43 i0 _ Try.underlying42 hi hz0 .i64 .i64 (n : Int) (n : Int) (by omega) (by omega) (by rw [hz2]; omega) (by omega)
  rw [hz1, Int.toNat_natCast, Nat.mul_one] at h
  exact h
end Go.Proofs.Qxb6616828a
