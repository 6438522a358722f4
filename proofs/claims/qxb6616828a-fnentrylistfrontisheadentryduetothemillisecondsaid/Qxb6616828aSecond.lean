/-
  The region of the law 'FnEntryListFrontIsHeadEntryDueToTheMillisecond' that builds the second list out of cuts of the first rows: its five slice literals, its two calls and its variable come up in whatever order; the outcome by the growth law.
-/
import Derived.Test.Qxb6616828aSteps
namespace Go.Proofs.Qxb6616828a
open Go.RowKit

/-- What the region reads, a row a field of the list: the outer slice at x, y; its first row at p, q; the numbers. -/
structure Src where
  n : Nat
  l : Nat
  h : Nat
  x : Nat → Nat
  y : Nat → Nat
  c : Nat → Nat
  p : Nat → Nat
  q : Nat → Nat
  e : Nat → Nat
  z : Nat → Nat → Int

/-- What the region computes, operation by operation. -/
def slot9 (i : Nat) : Nat := if i = 33 then 17 else 54 + i
def deps9 (i : Nat) : List Nat :=
  if i = 31 then [5, 11, 17, 23, 29, 30] else if i = 32 then [31] else if i = 30 then [] else if i = 33 then [] else
  if i % 6 = 0 then [] else if i % 6 = 1 then [i - 1] else if i % 6 = 2 then [i - 1] else if i % 6 = 3 then [] else if i % 6 = 4 then [i - 2, i - 1] else [i - 1]
def zero31 : Array Value := #[.int .u32 0, .int .u32 0, .int .u32 0, .int .u16 0, .int .i64 0]
def Val9 (D : Src) (N : Nat) (i : Nat) (w : World) (v : Value) : Prop :=
  if i = 31 then ∃ p, v = .pointer (some ⟨p, 0, none⟩) ∧ HasFront w p D.h (D.z 0 D.h) (D.z 1 D.h) (D.z 2 D.h) (D.z 3 D.h) (D.z 4 D.h)
  else if i = 32 then v = entryOf (D.z 0 D.h) (D.z 1 D.h) (D.z 2 D.h) (D.z 3 D.h) (D.z 4 D.h)
  else if i = 30 then v = .int .i64 (D.h : Int)
  else if i = 33 then ∃ g, v = .pointer (some ⟨g, 0, none⟩) ∧ N ≤ g ∧ w.heap[g]? = some (.cells zero31 31 (0, 0))
  else if i % 6 = 0 then v = .slice (some ⟨D.x (i / 6), D.y (i / 6), none⟩) D.n (D.c (i / 6))
  else if i % 6 = 1 then v = .pointer (some ⟨D.x (i / 6), D.y (i / 6), none⟩)
  else if i % 6 = 2 then v = .slice (some ⟨D.p (i / 6), D.q (i / 6), none⟩) D.l (D.e (i / 6))
  else if i % 6 = 3 then v = .int .i64 ((D.h : Int) + 1)
  else if i % 6 = 4 then v = .slice (some ⟨D.p (i / 6), D.q (i / 6), none⟩) (D.h + 1) (D.e (i / 6))
  else ∃ g, v = .slice (some ⟨g, 0, none⟩) 1 1 ∧ w.cell? ⟨g, 0, none⟩ = some (.slice (some ⟨D.p (i / 6), D.q (i / 6), none⟩) (D.h + 1) (D.e (i / 6)))

theorem Grow.cell {w w' : World} (h : Grow w w') {b o : Nat} {v : Value} (hc : w.cell? ⟨b, o, none⟩ = some v) : w'.cell? ⟨b, o, none⟩ = some v :=
  (Below.cell h (p := ⟨b, o, none⟩) (by simpa using World.block_lt_of_cell? w _ hc)).trans hc
theorem Grow.block {w w' : World} (h : Grow w w') {b : Nat} {o : Obj} (hc : w.heap[b]? = some o) : w'.heap[b]? = some o :=
  (Below.block h b (lt_of_block hc)).trans hc

theorem HasFront.grow {w w' : World} {p h : Nat} {a b c hi lo : Int} (H : HasFront w p h a b c hi lo) (hg : Grow w w') : HasFront w' p h a b c hi lo := by
  obtain ⟨bb, nb, cb, g, L, C, c0, c1, hn, hn2, c2, hL, hL2, d0, d1, d2, d3, d4, s0, s1, s2⟩ := H.ex
  have hs := Below.size hg
  exact ⟨⟨bb, nb, cb, g, L, C, hg.cell c0, hg.cell c1, hn, hn2, hg.cell c2, hL, hL2, hg.cell d0, hg.cell d1, hg.cell d2, hg.cell d3, hg.cell d4, by omega, by omega, by omega⟩⟩

theorem Val9.grow {D : Src} {N i : Nat} {w w' : World} {v : Value} (h : Val9 D N i w v) (hg : Grow w w') : Val9 D N i w' v := by
  unfold Val9 at *
  by_cases h1 : i = 31
  · rw [if_pos h1] at *
    obtain ⟨p, e, H⟩ := h
    exact ⟨p, e, H.grow hg⟩
  rw [if_neg h1] at *
  by_cases h2 : i = 32
  · rw [if_pos h2] at *; exact h
  rw [if_neg h2] at *
  by_cases h3 : i = 30
  · rw [if_pos h3] at *; exact h
  rw [if_neg h3] at *
  by_cases h4 : i = 33
  · rw [if_pos h4] at *
    obtain ⟨g, e, hN, hb⟩ := h
    exact ⟨g, e, hN, hg.block hb⟩
  rw [if_neg h4] at *
  by_cases m0 : i % 6 = 0
  · rw [if_pos m0] at *; exact h
  rw [if_neg m0] at *
  by_cases m1 : i % 6 = 1
  · rw [if_pos m1] at *; exact h
  rw [if_neg m1] at *
  by_cases m2 : i % 6 = 2
  · rw [if_pos m2] at *; exact h
  rw [if_neg m2] at *
  by_cases m3 : i % 6 = 3
  · rw [if_pos m3] at *; exact h
  rw [if_neg m3] at *
  by_cases m4 : i % 6 = 4
  · rw [if_pos m4] at *; exact h
  rw [if_neg m4] at *
  obtain ⟨g, e, hc⟩ := h
  exact ⟨g, e, hg.cell hc⟩

/-- The region's operations, without their places in the text and their edges. -/
def ops9 : Array (Option Tmp × Op × Option (Nat × Bool)) := #[
  (some 54, .move (.tmp 0), none),
  (some 55, .indexAddr 22 (.tmp 54) (.const (.int .i64 0)), none),
  (some 56, .load 35 (.tmp 55), none),
  (some 57, .move (.tmp 16), none),
  (some 58, .slice 35 (.tmp 56) none (some (.tmp 57)) none, none),
  (some 59, .buildSlice 22 1 #[(0, .tmp 58)], none),
  (some 60, .move (.tmp 1), none),
  (some 61, .indexAddr 22 (.tmp 60) (.const (.int .i64 0)), none),
  (some 62, .load 35 (.tmp 61), none),
  (some 63, .move (.tmp 16), none),
  (some 64, .slice 35 (.tmp 62) none (some (.tmp 63)) none, none),
  (some 65, .buildSlice 22 1 #[(0, .tmp 64)], none),
  (some 66, .move (.tmp 2), none),
  (some 67, .indexAddr 22 (.tmp 66) (.const (.int .i64 0)), none),
  (some 68, .load 35 (.tmp 67), none),
  (some 69, .move (.tmp 16), none),
  (some 70, .slice 35 (.tmp 68) none (some (.tmp 69)) none, none),
  (some 71, .buildSlice 22 1 #[(0, .tmp 70)], none),
  (some 72, .move (.tmp 3), none),
  (some 73, .indexAddr 22 (.tmp 72) (.const (.int .i64 0)), none),
  (some 74, .load 35 (.tmp 73), none),
  (some 75, .move (.tmp 16), none),
  (some 76, .slice 35 (.tmp 74) none (some (.tmp 75)) none, none),
  (some 77, .buildSlice 22 1 #[(0, .tmp 76)], none),
  (some 78, .move (.tmp 4), none),
  (some 79, .indexAddr 22 (.tmp 78) (.const (.int .i64 0)), none),
  (some 80, .load 35 (.tmp 79), none),
  (some 81, .move (.tmp 16), none),
  (some 82, .slice 35 (.tmp 80) none (some (.tmp 81)) none, none),
  (some 83, .buildSlice 22 1 #[(0, .tmp 82)], none),
  (some 84, .move (.tmp 5), none),
  (some 85, .call { callee := .value (.func 9), args := #[.tmp 59, .tmp 65, .tmp 71, .tmp 77, .tmp 83, .tmp 84, .const (.int .i64 1)], argTypes := #[22, 22, 22, 22, 22, 3, 3] }, none),
  (some 86, .call { callee := .value (.func 8), args := #[.tmp 85], argTypes := #[33] }, none),
  (some 17, .alloc 31, none),
  (none, .store 31 (.tmp 17) (.tmp 86), none)]

/-- The edges that are used, as closed checks. -/
def backB (ops : Array Oper) : Bool := (List.range ops.size).all fun i => match ops[i]? with | some o => o.guard.isNone && o.after.all (fun e => decide (e.on < i)) | none => true
def edgeB (o : Oper) (j : Nat) : Bool := o.after.any fun e => Region.binds .any e && e.on == j
def depsB (ops : Array Oper) (m : Nat) (deps : Nat → List Nat) : Bool := (List.range m).all fun i => match ops[i]? with | some o => (deps i).all fun j => decide (j < m) && edgeB o j | none => true
def allB (ops : Array Oper) (m : Nat) : Bool := match ops[m]? with | some o => (List.range m).all fun j => edgeB o j | none => true

theorem edge_of {o : Oper} {j : Nat} (h : edgeB o j = true) : ∃ e ∈ o.after, Region.binds .any e = true ∧ e.on = j := by
  unfold edgeB at h
  rw [Array.any_eq_true'] at h
  obtain ⟨e, he, hb⟩ := h
  rw [Bool.and_eq_true, beq_iff_eq] at hb
  exact ⟨e, he, hb.1, hb.2⟩

theorem back_of {ops : Array Oper} (h : backB ops = true) (i : Nat) (o : Oper) (ho : ops[i]? = some o) : o.guard = none ∧ ∀ e ∈ o.after, e.on < i := by
  unfold backB at h
  rw [List.all_eq_true] at h
  have := h i (List.mem_range.2 (Array.getElem?_eq_some_iff.1 ho).1)
  rw [ho] at this
  simp only [Bool.and_eq_true, Option.isNone_iff_eq_none, Array.all_eq_true_iff_forall_mem, decide_eq_true_eq] at this
  exact this

theorem deps_of {ops : Array Oper} {m : Nat} {deps : Nat → List Nat} (h : depsB ops m deps = true) (i : Nat) (o : Oper) (hi : i < m) (ho : ops[i]? = some o) (j : Nat) (hj : j ∈ deps i) : ∃ e ∈ o.after, Region.binds .any e = true ∧ e.on = j ∧ j < m := by
  unfold depsB at h
  rw [List.all_eq_true] at h
  have := h i (List.mem_range.2 hi)
  rw [ho] at this
  simp only [List.all_eq_true, Bool.and_eq_true, decide_eq_true_eq] at this
  obtain ⟨h1, h2⟩ := this j hj
  obtain ⟨e, he, hb, hon⟩ := edge_of h2
  exact ⟨e, he, hb, hon, h1⟩

theorem all_of {ops : Array Oper} {m : Nat} (h : allB ops m = true) (o : Oper) (ho : ops[m]? = some o) (j : Nat) (hj : j < m) : ∃ e ∈ o.after, Region.binds .any e = true ∧ e.on = j := by
  unfold allB at h
  rw [ho] at h
  simp only [List.all_eq_true] at h
  exact edge_of (h j (List.mem_range.2 hj))

theorem slot9_inj (i j : Nat) (hi : i < 34) (hj : j < 34) (h : slot9 i = slot9 j) : i = j := by
  unfold slot9 at h
  split at h <;> split at h <;> omega
theorem slot9_not (t : Nat) (ht : t < 54) (h17 : t ≠ 17) (i : Nat) (_hi : i < 34) : slot9 i ≠ t := by
  unfold slot9
  split <;> omega
theorem slot9_high (t : Nat) (ht : 87 ≤ t) (i : Nat) (hi : i < 34) : slot9 i ≠ t := by
  unfold slot9
  split <;> omega
end Go.Proofs.Qxb6616828a
