/-
  The region of 'ZZNewHistory' that appends an operation to the history, whole: in whatever order it comes up.
-/
import Derived.Test.Qxb6616342aSteps
namespace Go.Proofs.Qxb6616342a
open Go.RowKit

theorem info48 : (Try.prog.info? 48).map (fun i => (i.zero, i.size, i.bytes)) = some (some (.agg #[.int .i64 0, .bool false, .string ByteArray.empty, .int .i64 0, .int .i64 0, .int .i64 0]), 6, 56) := by kernel_rfl

/-- The six cells of an operation. -/
def opCells (x0 : Int) (x1 : Bool) (x2 : ByteArray) (x3 x4 x5 : Int) : List Value := [.int .i64 x0, .bool x1, .string x2, .int .i64 x3, .int .i64 x4, .int .i64 x5]

/-- What the region reads. -/
structure Src where
  p : Nat
  k : Nat
  n : Nat
  b : Nat → Nat
  f : Nat → Nat
  c : Nat → Nat
  x0 : Int
  x1 : Bool
  x2 : ByteArray
  x3 : Int
  x4 : Int
  x5 : Int
  v : Value
  xs : List Value
  base : Nat

def slot8 (i : Nat) : Nat := 22 + i
def deps8 (i : Nat) : List Nat :=
  if i < 2 then [] else if i < 5 then [i - 1] else if i = 29 then [8, 12, 16, 20, 24, 28] else if i = 30 then [29] else if i = 31 then [4, 30] else if i = 32 then [0] else if i = 33 then [32] else
  if i % 4 = 1 then [] else if i % 4 = 2 then [] else if i % 4 = 3 then [i - 2, i - 1] else [i - 1]

def newCells (D : Src) : List Value := opCells D.x0 D.x1 D.x2 D.x3 D.x4 D.x5

/-- What each operation leaves. -/
def Val8 (D : Src) (i : Nat) (w : World) (v : Value) : Prop :=
  match i with
  | 4 => v = D.v
  | 5 => v = .slice (some ⟨D.b 0, D.f 0, none⟩) D.n (D.c 0)
  | 6 => v = .int .i64 (D.k : Int)
  | 7 => v = (.pointer (some ⟨D.b 0, D.f 0 + D.k, none⟩))
  | 8 => v = .int .i64 D.x0
  | 9 => v = .slice (some ⟨D.b 1, D.f 1, none⟩) D.n (D.c 1)
  | 10 => v = .int .i64 (D.k : Int)
  | 11 => v = (.pointer (some ⟨D.b 1, D.f 1 + D.k, none⟩))
  | 12 => v = .bool D.x1
  | 13 => v = .slice (some ⟨D.b 2, D.f 2, none⟩) D.n (D.c 2)
  | 14 => v = .int .i64 (D.k : Int)
  | 15 => v = (.pointer (some ⟨D.b 2, D.f 2 + D.k, none⟩))
  | 16 => v = .string D.x2
  | 17 => v = .slice (some ⟨D.b 3, D.f 3, none⟩) D.n (D.c 3)
  | 18 => v = .int .i64 (D.k : Int)
  | 19 => v = (.pointer (some ⟨D.b 3, D.f 3 + D.k, none⟩))
  | 20 => v = .int .i64 D.x3
  | 21 => v = .slice (some ⟨D.b 4, D.f 4, none⟩) D.n (D.c 4)
  | 22 => v = .int .i64 (D.k : Int)
  | 23 => v = (.pointer (some ⟨D.b 4, D.f 4 + D.k, none⟩))
  | 24 => v = .int .i64 D.x4
  | 25 => v = .slice (some ⟨D.b 5, D.f 5, none⟩) D.n (D.c 5)
  | 26 => v = .int .i64 (D.k : Int)
  | 27 => v = (.pointer (some ⟨D.b 5, D.f 5 + D.k, none⟩))
  | 28 => v = .int .i64 D.x5
  | 29 => v = .agg (newCells D).toArray
  | 30 => ∃ g, v = .slice (some ⟨g, 0, none⟩) 1 1 ∧ w.heap[g]? = some (.cells (newCells D).toArray 48 (0, 0)) ∧ some g ≠ D.v.ownBlock
  | 31 => w.ownsRow D.base 48 6 v (D.k + 1) (D.xs ++ newCells D)
  | _ => v = (.pointer (some ⟨D.p, 0, none⟩))

/-- All that may come to pass ahead of the end. -/
structure Inv8 (D : Src) (w0 : World) (L : Nat → Bool) (w : World) : Prop where
  grown : w0.grownBy w D.v.ownBlock
  own : L 31 = false → w.ownsRow D.base 48 6 D.v D.k D.xs

theorem grownBy_trans {a b c : World} {r : Option Nat} (h : a.grownBy b r) (k : b.grownBy c r) : a.grownBy c r :=
  ⟨k.os.trans h.os, k.tape.trans h.tape, k.output.trans h.output, Nat.le_trans h.size k.size, fun i hi hr => (k.block i (Nat.lt_of_lt_of_le hi h.size) hr).trans (h.block i hi hr)⟩

theorem keep8 {D : Src} {w w' : World} (hg : w.grownBy w' D.v.ownBlock) (j : Nat) (u : Value) (hj : j ≠ 31) (h : Val8 D j w u) : Val8 D j w' u := by
  by_cases h30 : j = 30
  · subst h30
    obtain ⟨g, e, hb, hn⟩ := h
    exact ⟨g, e, (hg.block g (lt_of_block hb) hn).trans hb, hn⟩
  · have e : Val8 D j w' u = Val8 D j w u := by
      unfold Val8
      split <;> first | rfl | (exact absurd rfl hj) | (exact absurd rfl h30)
    rw [e]
    exact h

/-- What must lie in memory and in the frame ahead of the region. -/
structure Ready8 (D : Src) (a : Act) (w : World) : Prop where
  size : a.tmps.size = 58
  kn : D.k < D.n
  n2 : D.n ≤ 4097
  arg : ∀ j, j < 6 → a.tmps.getD j undef = .slice (some ⟨D.b j, D.f j, none⟩) D.n (D.c j)
  h13 : a.tmps.getD 13 undef = (.pointer (some ⟨D.p, 0, none⟩))
  h14 : a.tmps.getD 14 undef = .int .i64 (D.k : Int)
  c0 : w.cell? ⟨D.b 0, D.f 0 + D.k, none⟩ = some (.int .i64 D.x0)
  c1 : w.cell? ⟨D.b 1, D.f 1 + D.k, none⟩ = some (.bool D.x1)
  c2 : w.cell? ⟨D.b 2, D.f 2 + D.k, none⟩ = some (.string D.x2)
  c3 : w.cell? ⟨D.b 3, D.f 3 + D.k, none⟩ = some (.int .i64 D.x3)
  c4 : w.cell? ⟨D.b 4, D.f 4 + D.k, none⟩ = some (.int .i64 D.x4)
  c5 : w.cell? ⟨D.b 5, D.f 5 + D.k, none⟩ = some (.int .i64 D.x5)
  apart : ∀ j, j < 6 → some (D.b j) ≠ D.v.ownBlock
  hp : w.cell? ⟨D.p, 0, none⟩ = some D.v
  hpf : w.frozen? ⟨D.p, 0, none⟩ = false
  pv : some D.p ≠ D.v.ownBlock
  own : w.ownsRow D.base 48 6 D.v D.k D.xs
  base : D.base ≤ w.heap.size

def ops8 : Array (Option Tmp × Op × Option (Nat × Bool)) := #[
  (some 22, .move (.tmp 13), none),
  (some 23, .move (.tmp 13), none),
  (some 24, .nilCheck (.tmp 23), none),
  (some 25, .fieldAddr 45 (.tmp 24) 0, none),
  (some 26, .load 42 (.tmp 25), none),
  (some 27, .move (.tmp 0), none),
  (some 28, .move (.tmp 14), none),
  (some 29, .indexAddr 22 (.tmp 27) (.tmp 28), none),
  (some 30, .load 3 (.tmp 29), none),
  (some 31, .move (.tmp 1), none),
  (some 32, .move (.tmp 14), none),
  (some 33, .indexAddr 23 (.tmp 31) (.tmp 32), none),
  (some 34, .load 4 (.tmp 33), none),
  (some 35, .move (.tmp 2), none),
  (some 36, .move (.tmp 14), none),
  (some 37, .indexAddr 24 (.tmp 35) (.tmp 36), none),
  (some 38, .load 9 (.tmp 37), none),
  (some 39, .move (.tmp 3), none),
  (some 40, .move (.tmp 14), none),
  (some 41, .indexAddr 22 (.tmp 39) (.tmp 40), none),
  (some 42, .load 3 (.tmp 41), none),
  (some 43, .move (.tmp 4), none),
  (some 44, .move (.tmp 14), none),
  (some 45, .indexAddr 25 (.tmp 43) (.tmp 44), none),
  (some 46, .load 2 (.tmp 45), none),
  (some 47, .move (.tmp 5), none),
  (some 48, .move (.tmp 14), none),
  (some 49, .indexAddr 25 (.tmp 47) (.tmp 48), none),
  (some 50, .load 2 (.tmp 49), none),
  (some 51, .build 48 #[(0, .tmp 30), (1, .tmp 34), (2, .tmp 38), (3, .tmp 42), (4, .tmp 46), (5, .tmp 50)], none),
  (some 52, .buildSlice 42 1 #[(0, .tmp 51)], none),
  (some 53, .call { callee := .builtin .append, args := #[.tmp 26, .tmp 52], argTypes := #[42, 42] }, none),
  (some 54, .nilCheck (.tmp 22), none),
  (some 55, .fieldAddr 45 (.tmp 54) 0, none),
  (none, .store 42 (.tmp 55) (.tmp 53), none)]

theorem frozen_grown {w w' : World} {r : Option Nat} (hg : w.grownBy w' r) {b o : Nat} {u : Value} (hc : w.cell? ⟨b, o, none⟩ = some u) (hf : w.frozen? ⟨b, o, none⟩ = false) (hne : some b ≠ r) : w'.frozen? ⟨b, o, none⟩ = false :=
  (World.frozen?_of_block (hg.block b (by simpa using World.block_lt_of_cell? w _ hc) hne)).trans hf

set_option maxHeartbeats 2000000 in
set_option maxRecDepth 100000 in
theorem region8 {ops : Array Oper} {Q : Exit → Act → World → Prop} {id : Nat} {a0 : Act} {w : World} (D : Src) (hops : ops.map (fun o => (o.dst, o.op, o.guard)) = ops8) (hback : backB ops = true) (hdeps : depsB ops 34 deps8 = true) (hall : allB ops 34 = true)
    (hm : Try.prog.follows .mixedOrders = true) (R : Ready8 D a0 w.drew)
    (hend : ∀ (f : Nat → Value) (x : Option Addr) (y z : Nat) (W : World), (∀ t, t < 22 → f t = a0.tmps.getD t undef) → (∀ t, 56 ≤ t → f t = a0.tmps.getD t undef) → W.ownsRow D.base 48 6 (.slice x y z) (D.k + 1) (D.xs ++ newCells D) → w.grownBy W D.v.ownBlock →
      Q .normal { tmps := ((List.range 58).map f).toArray, defers := a0.defers } (W.setCell ⟨D.p, 0, none⟩ (.slice x y z))) :
    (Code.region id ops true).wp Try.prog Q a0 w := by
  have hsz : ops.size = 34 + 1 := by
    have := congrArg Array.size hops
    simpa [ops8] using this
  have hop : ∀ (i : Nat) (o : Oper), ops[i]? = some o → ops8[i]? = some (o.dst, o.op, o.guard) := fun i o ho => by
    rw [← hops, Array.getElem?_map, ho]; rfl
  have same : ∀ (i : Nat) (L : Nat → Bool) (W : World), Inv8 D w.drew L W → i ≠ 31 → Inv8 D w.drew (fun j => if i = j then true else L j) W := fun i L W h hi => ⟨h.grown, fun hl => h.own (by simpa [hi] using hl)⟩
  have kept : ∀ (i : Nat) (W : World), ∀ j u, j < 34 → j ≠ i → Val8 D j W u → Val8 D j W u := fun _ _ _ _ _ _ h => h
  refine region_grow (Inv := Inv8 D w.drew) (m := 34) (slot := slot8) (Val := Val8 D) (deps := deps8) hm (fun L _ => ⟨World.grownBy.refl _ _, fun _ => R.own⟩) hsz (fun i j _ _ h => by unfold slot8 at h; omega) (fun i hi => by rw [R.size]; unfold slot8; omega) (fun i o ho => (back_of hback i o ho).2) (deps_of hdeps) (all_of hall) ?_ ?_
  · intro i o hi ho L a W hL hI hot hd
    have h := hop i o ho
    refine wpOp_plain ho (guard_of hback i o ho) ?_
    obtain ⟨dst, op, ty, ps, af, gd⟩ := o
    have base : ∀ t, t < 22 → a.tmps.getD t undef = a0.tmps.getD t undef := fun t h1 => hot t (fun i _ => by unfold slot8; omega)
    clear hot ho
    match i, hi, h, hd, hL with
    | 0, _, h, hd, hL =>
      cases (show some (((some 22 : Option Tmp), (.move (.tmp 13) : Op), (none : Option (Nat × Bool)))) = some (dst, op, gd) from h)
      exact st_move 13 22 _ ((base 13 (by omega)).trans R.h13) ⟨_, rfl, by simp [Val8], same 0 L W hI (by omega), kept 0 W⟩
    | 1, _, h, hd, hL =>
      cases (show some (((some 23 : Option Tmp), (.move (.tmp 13) : Op), (none : Option (Nat × Bool)))) = some (dst, op, gd) from h)
      exact st_move 13 23 _ ((base 13 (by omega)).trans R.h13) ⟨_, rfl, by simp [Val8], same 1 L W hI (by omega), kept 1 W⟩
    | 2, _, h, hd, hL =>
      cases (show some (((some 24 : Option Tmp), (.nilCheck (.tmp 23) : Op), (none : Option (Nat × Bool)))) = some (dst, op, gd) from h)
      have d := hd 1 (by simp [deps8])
      simp only [Val8, slot8] at d
      exact st_nil 23 24 D.p 0 (by simpa using d) ⟨_, rfl, by simp [Val8], same 2 L W hI (by omega), kept 2 W⟩
    | 3, _, h, hd, hL =>
      cases (show some (((some 25 : Option Tmp), (.fieldAddr 45 (.tmp 24) 0 : Op), (none : Option (Nat × Bool)))) = some (dst, op, gd) from h)
      have d := hd 2 (by simp [deps8])
      simp only [Val8, slot8] at d
      exact st_field45_0 24 25 D.p 0 (by simpa using d) ⟨_, rfl, by simp [Val8], same 3 L W hI (by omega), kept 3 W⟩
    | 4, _, h, hd, hL =>
      cases (show some (((some 26 : Option Tmp), (.load 42 (.tmp 25) : Op), (none : Option (Nat × Bool)))) = some (dst, op, gd) from h)
      have d := hd 3 (by simp [deps8])
      simp only [Val8, slot8] at d
      have hv := R.own.2
      rcases hv with ⟨e, _⟩ | ⟨g, cap, cur, e, _⟩
      · have hc := hI.grown.cell R.hp R.pv
        rw [e] at hc
        exact st_load42 25 26 D.p 0 _ _ _ hc (by simpa using d) ⟨_, rfl, by simp [Val8, e], same 4 L W hI (by omega), kept 4 W⟩
      · have hc := hI.grown.cell R.hp R.pv
        rw [e] at hc
        exact st_load42 25 26 D.p 0 _ _ _ hc (by simpa using d) ⟨_, rfl, by simp [Val8, e], same 4 L W hI (by omega), kept 4 W⟩
    | 5, _, h, hd, hL =>
      cases (show some (((some 27 : Option Tmp), (.move (.tmp 0) : Op), (none : Option (Nat × Bool)))) = some (dst, op, gd) from h)
      exact st_move 0 27 _ ((base 0 (by omega)).trans (R.arg 0 (by omega))) ⟨_, rfl, by simp [Val8], same 5 L W hI (by omega), kept 5 W⟩
    | 6, _, h, hd, hL =>
      cases (show some (((some 28 : Option Tmp), (.move (.tmp 14) : Op), (none : Option (Nat × Bool)))) = some (dst, op, gd) from h)
      exact st_move 14 28 _ ((base 14 (by omega)).trans R.h14) ⟨_, rfl, by simp [Val8], same 6 L W hI (by omega), kept 6 W⟩
    | 7, _, h, hd, hL =>
      cases (show some (((some 29 : Option Tmp), (.indexAddr 22 (.tmp 27) (.tmp 28) : Op), (none : Option (Nat × Bool)))) = some (dst, op, gd) from h)
      have d := hd 5 (by simp [deps8])
      simp only [Val8, slot8] at d
      have d' := hd 6 (by simp [deps8])
      simp only [Val8, slot8] at d'
      exact st_index22 27 28 29 (D.b 0) (D.f 0) D.n (D.c 0) D.k R.kn (by simpa using d) (by simpa using d') ⟨_, rfl, by simp [Val8], same 7 L W hI (by omega), kept 7 W⟩
    | 8, _, h, hd, hL =>
      cases (show some (((some 30 : Option Tmp), (.load 3 (.tmp 29) : Op), (none : Option (Nat × Bool)))) = some (dst, op, gd) from h)
      have d := hd 7 (by simp [deps8])
      simp only [Val8, slot8] at d
      exact st_load3 29 30 (D.b 0) (D.f 0 + D.k) _ (hI.grown.cell R.c0 (R.apart 0 (by omega))) (by simpa using d) ⟨_, rfl, by simp [Val8], same 8 L W hI (by omega), kept 8 W⟩
    | 9, _, h, hd, hL =>
      cases (show some (((some 31 : Option Tmp), (.move (.tmp 1) : Op), (none : Option (Nat × Bool)))) = some (dst, op, gd) from h)
      exact st_move 1 31 _ ((base 1 (by omega)).trans (R.arg 1 (by omega))) ⟨_, rfl, by simp [Val8], same 9 L W hI (by omega), kept 9 W⟩
    | 10, _, h, hd, hL =>
      cases (show some (((some 32 : Option Tmp), (.move (.tmp 14) : Op), (none : Option (Nat × Bool)))) = some (dst, op, gd) from h)
      exact st_move 14 32 _ ((base 14 (by omega)).trans R.h14) ⟨_, rfl, by simp [Val8], same 10 L W hI (by omega), kept 10 W⟩
    | 11, _, h, hd, hL =>
      cases (show some (((some 33 : Option Tmp), (.indexAddr 23 (.tmp 31) (.tmp 32) : Op), (none : Option (Nat × Bool)))) = some (dst, op, gd) from h)
      have d := hd 9 (by simp [deps8])
      simp only [Val8, slot8] at d
      have d' := hd 10 (by simp [deps8])
      simp only [Val8, slot8] at d'
      exact st_index23 31 32 33 (D.b 1) (D.f 1) D.n (D.c 1) D.k R.kn (by simpa using d) (by simpa using d') ⟨_, rfl, by simp [Val8], same 11 L W hI (by omega), kept 11 W⟩
    | 12, _, h, hd, hL =>
      cases (show some (((some 34 : Option Tmp), (.load 4 (.tmp 33) : Op), (none : Option (Nat × Bool)))) = some (dst, op, gd) from h)
      have d := hd 11 (by simp [deps8])
      simp only [Val8, slot8] at d
      exact st_load4 33 34 (D.b 1) (D.f 1 + D.k) _ (hI.grown.cell R.c1 (R.apart 1 (by omega))) (by simpa using d) ⟨_, rfl, by simp [Val8], same 12 L W hI (by omega), kept 12 W⟩
    | 13, _, h, hd, hL =>
      cases (show some (((some 35 : Option Tmp), (.move (.tmp 2) : Op), (none : Option (Nat × Bool)))) = some (dst, op, gd) from h)
      exact st_move 2 35 _ ((base 2 (by omega)).trans (R.arg 2 (by omega))) ⟨_, rfl, by simp [Val8], same 13 L W hI (by omega), kept 13 W⟩
    | 14, _, h, hd, hL =>
      cases (show some (((some 36 : Option Tmp), (.move (.tmp 14) : Op), (none : Option (Nat × Bool)))) = some (dst, op, gd) from h)
      exact st_move 14 36 _ ((base 14 (by omega)).trans R.h14) ⟨_, rfl, by simp [Val8], same 14 L W hI (by omega), kept 14 W⟩
    | 15, _, h, hd, hL =>
      cases (show some (((some 37 : Option Tmp), (.indexAddr 24 (.tmp 35) (.tmp 36) : Op), (none : Option (Nat × Bool)))) = some (dst, op, gd) from h)
      have d := hd 13 (by simp [deps8])
      simp only [Val8, slot8] at d
      have d' := hd 14 (by simp [deps8])
      simp only [Val8, slot8] at d'
      exact st_index24 35 36 37 (D.b 2) (D.f 2) D.n (D.c 2) D.k R.kn (by simpa using d) (by simpa using d') ⟨_, rfl, by simp [Val8], same 15 L W hI (by omega), kept 15 W⟩
    | 16, _, h, hd, hL =>
      cases (show some (((some 38 : Option Tmp), (.load 9 (.tmp 37) : Op), (none : Option (Nat × Bool)))) = some (dst, op, gd) from h)
      have d := hd 15 (by simp [deps8])
      simp only [Val8, slot8] at d
      exact st_load9 37 38 (D.b 2) (D.f 2 + D.k) _ (hI.grown.cell R.c2 (R.apart 2 (by omega))) (by simpa using d) ⟨_, rfl, by simp [Val8], same 16 L W hI (by omega), kept 16 W⟩
    | 17, _, h, hd, hL =>
      cases (show some (((some 39 : Option Tmp), (.move (.tmp 3) : Op), (none : Option (Nat × Bool)))) = some (dst, op, gd) from h)
      exact st_move 3 39 _ ((base 3 (by omega)).trans (R.arg 3 (by omega))) ⟨_, rfl, by simp [Val8], same 17 L W hI (by omega), kept 17 W⟩
    | 18, _, h, hd, hL =>
      cases (show some (((some 40 : Option Tmp), (.move (.tmp 14) : Op), (none : Option (Nat × Bool)))) = some (dst, op, gd) from h)
      exact st_move 14 40 _ ((base 14 (by omega)).trans R.h14) ⟨_, rfl, by simp [Val8], same 18 L W hI (by omega), kept 18 W⟩
    | 19, _, h, hd, hL =>
      cases (show some (((some 41 : Option Tmp), (.indexAddr 22 (.tmp 39) (.tmp 40) : Op), (none : Option (Nat × Bool)))) = some (dst, op, gd) from h)
      have d := hd 17 (by simp [deps8])
      simp only [Val8, slot8] at d
      have d' := hd 18 (by simp [deps8])
      simp only [Val8, slot8] at d'
      exact st_index22 39 40 41 (D.b 3) (D.f 3) D.n (D.c 3) D.k R.kn (by simpa using d) (by simpa using d') ⟨_, rfl, by simp [Val8], same 19 L W hI (by omega), kept 19 W⟩
    | 20, _, h, hd, hL =>
      cases (show some (((some 42 : Option Tmp), (.load 3 (.tmp 41) : Op), (none : Option (Nat × Bool)))) = some (dst, op, gd) from h)
      have d := hd 19 (by simp [deps8])
      simp only [Val8, slot8] at d
      exact st_load3 41 42 (D.b 3) (D.f 3 + D.k) _ (hI.grown.cell R.c3 (R.apart 3 (by omega))) (by simpa using d) ⟨_, rfl, by simp [Val8], same 20 L W hI (by omega), kept 20 W⟩
    | 21, _, h, hd, hL =>
      cases (show some (((some 43 : Option Tmp), (.move (.tmp 4) : Op), (none : Option (Nat × Bool)))) = some (dst, op, gd) from h)
      exact st_move 4 43 _ ((base 4 (by omega)).trans (R.arg 4 (by omega))) ⟨_, rfl, by simp [Val8], same 21 L W hI (by omega), kept 21 W⟩
    | 22, _, h, hd, hL =>
      cases (show some (((some 44 : Option Tmp), (.move (.tmp 14) : Op), (none : Option (Nat × Bool)))) = some (dst, op, gd) from h)
      exact st_move 14 44 _ ((base 14 (by omega)).trans R.h14) ⟨_, rfl, by simp [Val8], same 22 L W hI (by omega), kept 22 W⟩
    | 23, _, h, hd, hL =>
      cases (show some (((some 45 : Option Tmp), (.indexAddr 25 (.tmp 43) (.tmp 44) : Op), (none : Option (Nat × Bool)))) = some (dst, op, gd) from h)
      have d := hd 21 (by simp [deps8])
      simp only [Val8, slot8] at d
      have d' := hd 22 (by simp [deps8])
      simp only [Val8, slot8] at d'
      exact st_index25 43 44 45 (D.b 4) (D.f 4) D.n (D.c 4) D.k R.kn (by simpa using d) (by simpa using d') ⟨_, rfl, by simp [Val8], same 23 L W hI (by omega), kept 23 W⟩
    | 24, _, h, hd, hL =>
      cases (show some (((some 46 : Option Tmp), (.load 2 (.tmp 45) : Op), (none : Option (Nat × Bool)))) = some (dst, op, gd) from h)
      have d := hd 23 (by simp [deps8])
      simp only [Val8, slot8] at d
      exact st_load2 45 46 (D.b 4) (D.f 4 + D.k) _ (hI.grown.cell R.c4 (R.apart 4 (by omega))) (by simpa using d) ⟨_, rfl, by simp [Val8], same 24 L W hI (by omega), kept 24 W⟩
    | 25, _, h, hd, hL =>
      cases (show some (((some 47 : Option Tmp), (.move (.tmp 5) : Op), (none : Option (Nat × Bool)))) = some (dst, op, gd) from h)
      exact st_move 5 47 _ ((base 5 (by omega)).trans (R.arg 5 (by omega))) ⟨_, rfl, by simp [Val8], same 25 L W hI (by omega), kept 25 W⟩
    | 26, _, h, hd, hL =>
      cases (show some (((some 48 : Option Tmp), (.move (.tmp 14) : Op), (none : Option (Nat × Bool)))) = some (dst, op, gd) from h)
      exact st_move 14 48 _ ((base 14 (by omega)).trans R.h14) ⟨_, rfl, by simp [Val8], same 26 L W hI (by omega), kept 26 W⟩
    | 27, _, h, hd, hL =>
      cases (show some (((some 49 : Option Tmp), (.indexAddr 25 (.tmp 47) (.tmp 48) : Op), (none : Option (Nat × Bool)))) = some (dst, op, gd) from h)
      have d := hd 25 (by simp [deps8])
      simp only [Val8, slot8] at d
      have d' := hd 26 (by simp [deps8])
      simp only [Val8, slot8] at d'
      exact st_index25 47 48 49 (D.b 5) (D.f 5) D.n (D.c 5) D.k R.kn (by simpa using d) (by simpa using d') ⟨_, rfl, by simp [Val8], same 27 L W hI (by omega), kept 27 W⟩
    | 28, _, h, hd, hL =>
      cases (show some (((some 50 : Option Tmp), (.load 2 (.tmp 49) : Op), (none : Option (Nat × Bool)))) = some (dst, op, gd) from h)
      have d := hd 27 (by simp [deps8])
      simp only [Val8, slot8] at d
      exact st_load2 49 50 (D.b 5) (D.f 5 + D.k) _ (hI.grown.cell R.c5 (R.apart 5 (by omega))) (by simpa using d) ⟨_, rfl, by simp [Val8], same 28 L W hI (by omega), kept 28 W⟩
    | 29, _, h, hd, hL =>
      cases (show some (((some 51 : Option Tmp), (.build 48 #[(0, .tmp 30), (1, .tmp 34), (2, .tmp 38), (3, .tmp 42), (4, .tmp 46), (5, .tmp 50)] : Op), (none : Option (Nat × Bool)))) = some (dst, op, gd) from h)
      have d0 := hd 8 (by simp [deps8])
      simp only [Val8, slot8] at d0
      have d1 := hd 12 (by simp [deps8])
      simp only [Val8, slot8] at d1
      have d2 := hd 16 (by simp [deps8])
      simp only [Val8, slot8] at d2
      have d3 := hd 20 (by simp [deps8])
      simp only [Val8, slot8] at d3
      have d4 := hd 24 (by simp [deps8])
      simp only [Val8, slot8] at d4
      have d5 := hd 28 (by simp [deps8])
      simp only [Val8, slot8] at d5
      exact st_build48 51 30 34 38 42 46 50 D.x0 D.x1 D.x2 D.x3 D.x4 D.x5 (by simpa using d0) (by simpa using d1) (by simpa using d2) (by simpa using d3) (by simpa using d4) (by simpa using d5) ⟨_, rfl, by simp [Val8, newCells, opCells], same 29 L W hI (by omega), kept 29 W⟩
    | 30, _, h, hd, hL =>
      cases (show some (((some 52 : Option Tmp), (.buildSlice 42 1 #[(0, .tmp 51)] : Op), (none : Option (Nat × Bool)))) = some (dst, op, gd) from h)
      have d := hd 29 (by simp [deps8])
      simp only [Val8, slot8] at d
      have hlt : ∀ g, D.v.ownBlock = some g → g < W.heap.size := fun g hg => Nat.lt_of_lt_of_le (R.own.lt g hg).2 hI.grown.size
      refine st_slice42 52 51 D.x0 D.x1 D.x2 D.x3 D.x4 D.x5 (by simpa [newCells, opCells] using d) ⟨_, rfl, ?_, ⟨grownBy_trans hI.grown (World.grownBy_alloc _ _ _), fun hl => (hI.own (by simpa using hl)).alloc _⟩, fun j u _ hj hv => ?_⟩
      · refine ⟨W.heap.size, rfl, heap_alloc_new _ _, fun e => ?_⟩
        have := hlt _ e.symm
        omega
      · by_cases h31 : j = 31
        · subst h31
          exact World.ownsRow.alloc hv _
        · exact keep8 (World.grownBy_alloc _ _ _) j u h31 hv
    | 31, _, h, hd, hL =>
      cases (show some (((some 53 : Option Tmp), (.call { callee := .builtin .append, args := #[.tmp 26, .tmp 52], argTypes := #[42, 42] } : Op), (none : Option (Nat × Bool)))) = some (dst, op, gd) from h)
      have d := hd 4 (by simp [deps8])
      simp only [Val8, slot8] at d
      have d' := hd 30 (by simp [deps8])
      simp only [Val8, slot8] at d'
      obtain ⟨g, e, hb, hne⟩ := d'
      obtain ⟨i0, hi0, hz0, hz1, hz2⟩ := info_parts info48
      have hlen : (newCells D).length = 1 * 6 := rfl
      have kn := R.kn
      have n2 := R.n2
      refine wp_append_own W (.tmp 26) (.tmp 52) 42 rfl D.base 48 i0 _ 6 56 Try.underlying42 hi0 hz0 hz1 hz2 rfl (by omega) D.v D.k D.xs d (hI.own hL) ⟨g, 0, none⟩ 1 1 (newCells D) e hlen ?_ ?_ (by unfold maxLen; omega) (by omega) (Nat.le_trans R.base hI.grown.size) ?_
      · intro t u ht
        rw [Addr.add_lit]
        simp only [World.cell?, hb]
        simpa using ht
      · intro u hu
        simp only [newCells, opCells, List.mem_cons, List.not_mem_nil, or_false] at hu
        rcases hu with rfl | rfl | rfl | rfl | rfl | rfl <;> rfl
      · intro v' w' hown hgr _
        exact ⟨v', rfl, hown, ⟨grownBy_trans hI.grown hgr, fun hl => by simp at hl⟩, fun j u _ hj hv => keep8 hgr j u hj hv⟩
    | 32, _, h, hd, hL =>
      cases (show some (((some 54 : Option Tmp), (.nilCheck (.tmp 22) : Op), (none : Option (Nat × Bool)))) = some (dst, op, gd) from h)
      have d := hd 0 (by simp [deps8])
      simp only [Val8, slot8] at d
      exact st_nil 22 54 D.p 0 (by simpa using d) ⟨_, rfl, by simp [Val8], same 32 L W hI (by omega), kept 32 W⟩
    | 33, _, h, hd, hL =>
      cases (show some (((some 55 : Option Tmp), (.fieldAddr 45 (.tmp 54) 0 : Op), (none : Option (Nat × Bool)))) = some (dst, op, gd) from h)
      have d := hd 32 (by simp [deps8])
      simp only [Val8, slot8] at d
      exact st_field45_0 54 55 D.p 0 (by simpa using d) ⟨_, rfl, by simp [Val8], same 33 L W hI (by omega), kept 33 W⟩
    | i + 34, hi, _, _, _ => exact absurd hi (by omega)
  · intro o ho L a W hI hdf hts hot hv
    have h := hop 34 o ho
    refine wpOp_plain ho (guard_of hback 34 o ho) ?_
    obtain ⟨dst, op, ty, ps, af, gd⟩ := o
    cases (show some (((none : Option Tmp), (.store 42 (.tmp 55) (.tmp 53) : Op), (none : Option (Nat × Bool)))) = some (dst, op, gd) from h)
    have d1 := hv 33 (by omega)
    have d2 := hv 31 (by omega)
    simp only [Val8, slot8] at d1 d2
    obtain ⟨x, y, z, e⟩ : ∃ x y z, a.tmps.getD (22 + 31) undef = .slice x y z := by
      rcases d2.2 with ⟨e, _⟩ | ⟨g, cap, cur, e, _⟩
      · exact ⟨_, _, _, e⟩
      · exact ⟨_, _, _, e⟩
    rw [e] at d2
    refine st_store42 55 53 D.p _ x y z (by simpa using d1) e (hI.grown.cell R.hp R.pv) (frozen_grown hI.grown R.hp R.hpf R.pv) ?_
    have hf : a = { tmps := ((List.range 58).map fun t => a.tmps.getD t undef).toArray, defers := a0.defers } := by
      obtain ⟨tm, df⟩ := a
      simp only at hdf hts ⊢
      subst hdf
      congr 1
      apply Array.ext
      · simp [hts, R.size]
      · intro j h1 h2
        simp [Array.getD_eq_getD_getElem?, h1]
    rw [hf]
    exact hend (fun t => a.tmps.getD t undef) x y z W (fun t ht => hot t (fun i _ => by unfold slot8; omega)) (fun t ht => hot t (fun i hi => by unfold slot8; omega)) d2 ⟨hI.grown.os, hI.grown.tape, hI.grown.output, hI.grown.size, hI.grown.block⟩
end Go.Proofs.Qxb6616342a
