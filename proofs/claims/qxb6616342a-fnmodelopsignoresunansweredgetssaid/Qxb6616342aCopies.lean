/-
  The law's copies of its six slices: what is needed of them.
-/
import Derived.Test.Qxb6616342aOps
import Derived.Laws.CopyOwn
namespace Go.Proofs.Qxb6616342a
open Go.RowKit

theorem info3 : (Try.prog.info? 3).map (fun i => (i.zero, i.size, i.bytes)) = some (some (.int .i64 0), 1, 8) := by kernel_rfl
theorem info4 : (Try.prog.info? 4).map (fun i => (i.zero, i.size, i.bytes)) = some (some (.bool false), 1, 1) := by kernel_rfl
theorem info9 : (Try.prog.info? 9).map (fun i => (i.zero, i.size, i.bytes)) = some (some (.string ByteArray.empty), 1, 16) := by kernel_rfl
theorem info2 : (Try.prog.info? 2).map (fun i => (i.zero, i.size, i.bytes)) = some (some (.int .i64 0), 1, 8) := by kernel_rfl

theorem make22 (n : Nat) (hn : n ≤ 4097) (w : World) : (Instr.makeSlice 22 (.int .i64 (n : Int)) (.int .i64 (n : Int))).run Try.prog w = .ok (.slice (some ⟨w.heap.size, 0, none⟩) n n) (w.alloc (.cells (List.replicate n (.int .i64 0)).toArray 3)) := by
  obtain ⟨i0, hi, hz0, hz1, hz2⟩ := info_parts info3
  have h := run_make (P := Try.prog) w 22 3 i0 _ Try.underlying22 hi hz0 .i64 .i64 (n : Int) (n : Int) (by omega) (by omega) (by rw [hz2]; omega) (by omega)
  rw [hz1, Int.toNat_natCast, Nat.mul_one] at h
  rw [h]
  congr 3
  rw [← toList_madeCells_one]
  rfl

theorem make23 (n : Nat) (hn : n ≤ 4097) (w : World) : (Instr.makeSlice 23 (.int .i64 (n : Int)) (.int .i64 (n : Int))).run Try.prog w = .ok (.slice (some ⟨w.heap.size, 0, none⟩) n n) (w.alloc (.cells (List.replicate n (.bool false)).toArray 4)) := by
  obtain ⟨i0, hi, hz0, hz1, hz2⟩ := info_parts info4
  have h := run_make (P := Try.prog) w 23 4 i0 _ Try.underlying23 hi hz0 .i64 .i64 (n : Int) (n : Int) (by omega) (by omega) (by rw [hz2]; omega) (by omega)
  rw [hz1, Int.toNat_natCast, Nat.mul_one] at h
  rw [h]
  congr 3
  rw [← toList_madeCells_one]
  rfl

theorem make24 (n : Nat) (hn : n ≤ 4097) (w : World) : (Instr.makeSlice 24 (.int .i64 (n : Int)) (.int .i64 (n : Int))).run Try.prog w = .ok (.slice (some ⟨w.heap.size, 0, none⟩) n n) (w.alloc (.cells (List.replicate n (.string ByteArray.empty)).toArray 9)) := by
  obtain ⟨i0, hi, hz0, hz1, hz2⟩ := info_parts info9
  have h := run_make (P := Try.prog) w 24 9 i0 _ Try.underlying24 hi hz0 .i64 .i64 (n : Int) (n : Int) (by omega) (by omega) (by rw [hz2]; omega) (by omega)
  rw [hz1, Int.toNat_natCast, Nat.mul_one] at h
  rw [h]
  congr 3
  rw [← toList_madeCells_one]
  rfl

theorem make25 (n : Nat) (hn : n ≤ 4097) (w : World) : (Instr.makeSlice 25 (.int .i64 (n : Int)) (.int .i64 (n : Int))).run Try.prog w = .ok (.slice (some ⟨w.heap.size, 0, none⟩) n n) (w.alloc (.cells (List.replicate n (.int .i64 0)).toArray 2)) := by
  obtain ⟨i0, hi, hz0, hz1, hz2⟩ := info_parts info2
  have h := run_make (P := Try.prog) w 25 2 i0 _ Try.underlying25 hi hz0 .i64 .i64 (n : Int) (n : Int) (by omega) (by omega) (by rw [hz2]; omega) (by omega)
  rw [hz1, Int.toNat_natCast, Nat.mul_one] at h
  rw [h]
  congr 3
  rw [← toList_madeCells_one]
  rfl

theorem row_of_block {w : World} {g n : Nat} {E : TypeId} {X : Nat → Value} (h : w.heap[g]? = some (.cells ((List.range n).map X).toArray E (0, 0))) (hn : n ≤ 9223372036854775807) : Row w (some ⟨g, 0, none⟩) n X :=
  ⟨hn, fun k hk => ⟨g, 0, rfl, lt_of_block h, by simp [World.cell?, h, hk]⟩⟩

theorem splice_all {n : Nat} {X : Nat → Value} {L : List Value} (hL : L.length = n) : splice L 0 ((List.range n).map X) = (List.range n).map X := by
  simp [splice, hL]
end Go.Proofs.Qxb6616342a
