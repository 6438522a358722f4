/-
  The region that builds the second list, whole.
-/
import Derived.Test.Qxb6616828aSecond
namespace Go.Proofs.Qxb6616828a
open Go.RowKit

/-- What must lie in memory and in the frame ahead of the region. -/
structure Ready (D : Src) (a : Act) (w : World) : Prop where
  n1 : 1 ≤ D.n
  n2 : D.n ≤ 1048576
  l2 : D.l ≤ 4096
  hl : D.h < D.l
  le : ∀ k, k < 5 → D.l ≤ D.e k
  top : ∀ k, k < 5 → w.cell? ⟨D.x k, D.y k, none⟩ = some (.slice (some ⟨D.p k, D.q k, none⟩) D.l (D.e k))
  num : ∀ k, k < 5 → ∀ c, c < D.l → w.cell? ⟨D.p k, D.q k + c, none⟩ = some (.int .u32 (D.z k c))
  bd : ∀ k, k < 5 → ∀ c, c < D.l → 0 ≤ D.z k c ∧ D.z k c ≤ 4294967295
  size : a.tmps.size = 148
  arg : ∀ k, k < 5 → a.tmps.getD k undef = .slice (some ⟨D.x k, D.y k, none⟩) D.n (D.c k)
  head : a.tmps.getD 5 undef = .int .i64 (D.h : Int)
  one : a.tmps.getD 16 undef = .int .i64 ((D.h : Int) + 1)

/-- A one-row grid out of a cut of a first row. -/
theorem cut_grid {D : Src} {w0 w : World} {a0 : Act} (R : Ready D a0 w0) (hg : Grow w0 w) (k : Nat) (hk : k < 5) (g : Nat) (hc : w.cell? ⟨g, 0, none⟩ = some (.slice (some ⟨D.p k, D.q k, none⟩) (D.h + 1) (D.e k))) :
    Grid w (some ⟨g, 0, none⟩) 1 (fun _ => some ⟨D.p k, D.q k, none⟩) (fun _ => D.h + 1) (fun _ => D.e k) (fun _ => D.z k) := by
  have h1 := R.hl
  have h2 := R.l2
  have h3 := R.le k hk
  refine ⟨by omega, fun r hr => by omega, fun r hr => ⟨g, 0, rfl, by simpa using World.block_lt_of_cell? w _ hc, ?_⟩, fun r hr c hc' => ⟨D.p k, D.q k, rfl, ?_, hg.cell (R.num k hk c (by omega))⟩, fun r hr c hc' => R.bd k hk c (by omega), fun r hr => by omega⟩
  · obtain rfl : r = 0 := by omega
    exact hc
  · simpa using World.block_lt_of_cell? w _ (hg.cell (R.num k hk c (by omega)))

set_option maxHeartbeats 2000000 in
set_option maxRecDepth 100000 in
theorem second_region {ops : Array Oper} {Q : Exit → Act → World → Prop} {id : Nat} {a0 : Act} {w : World} (D : Src) (hops : ops.map (fun o => (o.dst, o.op, o.guard)) = ops9) (hback : backB ops = true) (hdeps : depsB ops 34 deps9 = true) (hall : allB ops 34 = true)
    (hm : Try.prog.follows .mixedOrders = true) (R : Ready D a0 w.drew)
    (hend : ∀ (f : Nat → Value) (g : Nat) (W : World), (∀ t, t < 54 → t ≠ 17 → f t = a0.tmps.getD t undef) → f 17 = .pointer (some ⟨g, 0, none⟩) → w.heap.size ≤ g → g < W.heap.size → Grow w W →
      (∃ W1 : World, W = ((((W1.setCell ⟨g, 0, none⟩ (.int .u32 (D.z 0 D.h))).setCell ⟨g, 1, none⟩ (.int .u32 (D.z 1 D.h))).setCell ⟨g, 2, none⟩ (.int .u32 (D.z 2 D.h))).setCell ⟨g, 3, none⟩ (.int .u16 (keyOf (D.z 3 D.h) (D.z 4 D.h) % 65536))).setCell ⟨g, 4, none⟩ (.int .i64 (dueOf (keyOf (D.z 3 D.h) (D.z 4 D.h) / 65536))) ∧ W1.heap[g]? = some (.cells zero31 31 (0, 0))) →
      Q .normal { tmps := ((List.range 148).map f).toArray, defers := a0.defers } W) :
    (Code.region id ops true).wp Try.prog Q a0 w := by
  have hsz : ops.size = 34 + 1 := by
    have := congrArg Array.size hops
    simpa [ops9] using this
  have hop : ∀ (i : Nat) (o : Oper), ops[i]? = some o → ops9[i]? = some (o.dst, o.op, o.guard) := fun i o ho => by
    rw [← hops, Array.getElem?_map, ho]; rfl
  refine region_grow (w0 := w.drew) (m := 34) (slot := slot9) (Val := Val9 D w.heap.size) (deps := deps9) hm rfl hsz slot9_inj (fun i hi => by rw [R.size]; unfold slot9; split <;> omega) (back_of hback) (deps_of hdeps) (all_of hall) (fun i w w' v _ h hg => h.grow hg) ?_ ?_
  · intro i o hi ho a W hg hot hd
    have h := hop i o ho
    obtain ⟨dst, op, ty, ps, af, gd⟩ := o
    have base : ∀ t, t < 54 → t ≠ 17 → a.tmps.getD t undef = a0.tmps.getD t undef := fun t h1 h2 => hot t (slot9_not t h1 h2)
    clear hot ho
    match i, hi, h, hd with
    | 0, _, h, hd =>
      cases (show some (((some 54 : Option Tmp), (.move (.tmp 0) : Op), (none : Option (Nat × Bool)))) = some (dst, op, gd) from h)
      exact st_move 0 54 _ ((base 0 (by omega) (by omega)).trans (R.arg 0 (by omega))) ⟨_, rfl, by simp [Val9], Grow.refl _⟩
    | 1, _, h, hd =>
      cases (show some (((some 55 : Option Tmp), (.indexAddr 22 (.tmp 54) (.const (.int .i64 0)) : Op), (none : Option (Nat × Bool)))) = some (dst, op, gd) from h)
      have d := hd 0 (by simp [deps9])
      simp only [Val9, slot9] at d
      exact st_index 54 55 (D.x 0) (D.y 0) D.n (D.c 0) R.n1 R.n2 (by simpa using d) ⟨_, rfl, by simp [Val9], Grow.refl _⟩
    | 2, _, h, hd =>
      cases (show some (((some 56 : Option Tmp), (.load 35 (.tmp 55) : Op), (none : Option (Nat × Bool)))) = some (dst, op, gd) from h)
      have d := hd 1 (by simp [deps9])
      simp only [Val9, slot9] at d
      exact st_load 55 56 (D.x 0) (D.y 0) _ _ _ _ rfl (hg.cell (R.top 0 (by omega))) (by simpa using d) ⟨_, rfl, by simp [Val9], Grow.refl _⟩
    | 3, _, h, hd =>
      cases (show some (((some 57 : Option Tmp), (.move (.tmp 16) : Op), (none : Option (Nat × Bool)))) = some (dst, op, gd) from h)
      exact st_move 16 57 _ ((base 16 (by omega) (by omega)).trans R.one) ⟨_, rfl, by simp [Val9], Grow.refl _⟩
    | 4, _, h, hd =>
      cases (show some (((some 58 : Option Tmp), (.slice 35 (.tmp 56) none (some (.tmp 57)) none : Op), (none : Option (Nat × Bool)))) = some (dst, op, gd) from h)
      have d := hd 2 (by simp [deps9])
      have d' := hd 3 (by simp [deps9])
      simp only [Val9, slot9] at d d'
      exact st_slice 56 57 58 (D.p 0) (D.q 0) D.l (D.e 0) D.h R.hl (R.le 0 (by omega)) (by simpa using d) (by simpa using d') ⟨_, rfl, by simp [Val9], Grow.refl _⟩
    | 5, _, h, hd =>
      cases (show some (((some 59 : Option Tmp), (.buildSlice 22 1 #[(0, .tmp 58)] : Op), (none : Option (Nat × Bool)))) = some (dst, op, gd) from h)
      have d := hd 4 (by simp [deps9])
      simp only [Val9, slot9] at d
      exact st_build 58 59 (some ⟨D.p 0, D.q 0, none⟩) (D.h + 1) (D.e 0) (by simpa using d) ⟨_, rfl, by simp [Val9], Grow.alloc _ _⟩
    | 6, _, h, hd =>
      cases (show some (((some 60 : Option Tmp), (.move (.tmp 1) : Op), (none : Option (Nat × Bool)))) = some (dst, op, gd) from h)
      exact st_move 1 60 _ ((base 1 (by omega) (by omega)).trans (R.arg 1 (by omega))) ⟨_, rfl, by simp [Val9], Grow.refl _⟩
    | 7, _, h, hd =>
      cases (show some (((some 61 : Option Tmp), (.indexAddr 22 (.tmp 60) (.const (.int .i64 0)) : Op), (none : Option (Nat × Bool)))) = some (dst, op, gd) from h)
      have d := hd 6 (by simp [deps9])
      simp only [Val9, slot9] at d
      exact st_index 60 61 (D.x 1) (D.y 1) D.n (D.c 1) R.n1 R.n2 (by simpa using d) ⟨_, rfl, by simp [Val9], Grow.refl _⟩
    | 8, _, h, hd =>
      cases (show some (((some 62 : Option Tmp), (.load 35 (.tmp 61) : Op), (none : Option (Nat × Bool)))) = some (dst, op, gd) from h)
      have d := hd 7 (by simp [deps9])
      simp only [Val9, slot9] at d
      exact st_load 61 62 (D.x 1) (D.y 1) _ _ _ _ rfl (hg.cell (R.top 1 (by omega))) (by simpa using d) ⟨_, rfl, by simp [Val9], Grow.refl _⟩
    | 9, _, h, hd =>
      cases (show some (((some 63 : Option Tmp), (.move (.tmp 16) : Op), (none : Option (Nat × Bool)))) = some (dst, op, gd) from h)
      exact st_move 16 63 _ ((base 16 (by omega) (by omega)).trans R.one) ⟨_, rfl, by simp [Val9], Grow.refl _⟩
    | 10, _, h, hd =>
      cases (show some (((some 64 : Option Tmp), (.slice 35 (.tmp 62) none (some (.tmp 63)) none : Op), (none : Option (Nat × Bool)))) = some (dst, op, gd) from h)
      have d := hd 8 (by simp [deps9])
      have d' := hd 9 (by simp [deps9])
      simp only [Val9, slot9] at d d'
      exact st_slice 62 63 64 (D.p 1) (D.q 1) D.l (D.e 1) D.h R.hl (R.le 1 (by omega)) (by simpa using d) (by simpa using d') ⟨_, rfl, by simp [Val9], Grow.refl _⟩
    | 11, _, h, hd =>
      cases (show some (((some 65 : Option Tmp), (.buildSlice 22 1 #[(0, .tmp 64)] : Op), (none : Option (Nat × Bool)))) = some (dst, op, gd) from h)
      have d := hd 10 (by simp [deps9])
      simp only [Val9, slot9] at d
      exact st_build 64 65 (some ⟨D.p 1, D.q 1, none⟩) (D.h + 1) (D.e 1) (by simpa using d) ⟨_, rfl, by simp [Val9], Grow.alloc _ _⟩
    | 12, _, h, hd =>
      cases (show some (((some 66 : Option Tmp), (.move (.tmp 2) : Op), (none : Option (Nat × Bool)))) = some (dst, op, gd) from h)
      exact st_move 2 66 _ ((base 2 (by omega) (by omega)).trans (R.arg 2 (by omega))) ⟨_, rfl, by simp [Val9], Grow.refl _⟩
    | 13, _, h, hd =>
      cases (show some (((some 67 : Option Tmp), (.indexAddr 22 (.tmp 66) (.const (.int .i64 0)) : Op), (none : Option (Nat × Bool)))) = some (dst, op, gd) from h)
      have d := hd 12 (by simp [deps9])
      simp only [Val9, slot9] at d
      exact st_index 66 67 (D.x 2) (D.y 2) D.n (D.c 2) R.n1 R.n2 (by simpa using d) ⟨_, rfl, by simp [Val9], Grow.refl _⟩
    | 14, _, h, hd =>
      cases (show some (((some 68 : Option Tmp), (.load 35 (.tmp 67) : Op), (none : Option (Nat × Bool)))) = some (dst, op, gd) from h)
      have d := hd 13 (by simp [deps9])
      simp only [Val9, slot9] at d
      exact st_load 67 68 (D.x 2) (D.y 2) _ _ _ _ rfl (hg.cell (R.top 2 (by omega))) (by simpa using d) ⟨_, rfl, by simp [Val9], Grow.refl _⟩
    | 15, _, h, hd =>
      cases (show some (((some 69 : Option Tmp), (.move (.tmp 16) : Op), (none : Option (Nat × Bool)))) = some (dst, op, gd) from h)
      exact st_move 16 69 _ ((base 16 (by omega) (by omega)).trans R.one) ⟨_, rfl, by simp [Val9], Grow.refl _⟩
    | 16, _, h, hd =>
      cases (show some (((some 70 : Option Tmp), (.slice 35 (.tmp 68) none (some (.tmp 69)) none : Op), (none : Option (Nat × Bool)))) = some (dst, op, gd) from h)
      have d := hd 14 (by simp [deps9])
      have d' := hd 15 (by simp [deps9])
      simp only [Val9, slot9] at d d'
      exact st_slice 68 69 70 (D.p 2) (D.q 2) D.l (D.e 2) D.h R.hl (R.le 2 (by omega)) (by simpa using d) (by simpa using d') ⟨_, rfl, by simp [Val9], Grow.refl _⟩
    | 17, _, h, hd =>
      cases (show some (((some 71 : Option Tmp), (.buildSlice 22 1 #[(0, .tmp 70)] : Op), (none : Option (Nat × Bool)))) = some (dst, op, gd) from h)
      have d := hd 16 (by simp [deps9])
      simp only [Val9, slot9] at d
      exact st_build 70 71 (some ⟨D.p 2, D.q 2, none⟩) (D.h + 1) (D.e 2) (by simpa using d) ⟨_, rfl, by simp [Val9], Grow.alloc _ _⟩
    | 18, _, h, hd =>
      cases (show some (((some 72 : Option Tmp), (.move (.tmp 3) : Op), (none : Option (Nat × Bool)))) = some (dst, op, gd) from h)
      exact st_move 3 72 _ ((base 3 (by omega) (by omega)).trans (R.arg 3 (by omega))) ⟨_, rfl, by simp [Val9], Grow.refl _⟩
    | 19, _, h, hd =>
      cases (show some (((some 73 : Option Tmp), (.indexAddr 22 (.tmp 72) (.const (.int .i64 0)) : Op), (none : Option (Nat × Bool)))) = some (dst, op, gd) from h)
      have d := hd 18 (by simp [deps9])
      simp only [Val9, slot9] at d
      exact st_index 72 73 (D.x 3) (D.y 3) D.n (D.c 3) R.n1 R.n2 (by simpa using d) ⟨_, rfl, by simp [Val9], Grow.refl _⟩
    | 20, _, h, hd =>
      cases (show some (((some 74 : Option Tmp), (.load 35 (.tmp 73) : Op), (none : Option (Nat × Bool)))) = some (dst, op, gd) from h)
      have d := hd 19 (by simp [deps9])
      simp only [Val9, slot9] at d
      exact st_load 73 74 (D.x 3) (D.y 3) _ _ _ _ rfl (hg.cell (R.top 3 (by omega))) (by simpa using d) ⟨_, rfl, by simp [Val9], Grow.refl _⟩
    | 21, _, h, hd =>
      cases (show some (((some 75 : Option Tmp), (.move (.tmp 16) : Op), (none : Option (Nat × Bool)))) = some (dst, op, gd) from h)
      exact st_move 16 75 _ ((base 16 (by omega) (by omega)).trans R.one) ⟨_, rfl, by simp [Val9], Grow.refl _⟩
    | 22, _, h, hd =>
      cases (show some (((some 76 : Option Tmp), (.slice 35 (.tmp 74) none (some (.tmp 75)) none : Op), (none : Option (Nat × Bool)))) = some (dst, op, gd) from h)
      have d := hd 20 (by simp [deps9])
      have d' := hd 21 (by simp [deps9])
      simp only [Val9, slot9] at d d'
      exact st_slice 74 75 76 (D.p 3) (D.q 3) D.l (D.e 3) D.h R.hl (R.le 3 (by omega)) (by simpa using d) (by simpa using d') ⟨_, rfl, by simp [Val9], Grow.refl _⟩
    | 23, _, h, hd =>
      cases (show some (((some 77 : Option Tmp), (.buildSlice 22 1 #[(0, .tmp 76)] : Op), (none : Option (Nat × Bool)))) = some (dst, op, gd) from h)
      have d := hd 22 (by simp [deps9])
      simp only [Val9, slot9] at d
      exact st_build 76 77 (some ⟨D.p 3, D.q 3, none⟩) (D.h + 1) (D.e 3) (by simpa using d) ⟨_, rfl, by simp [Val9], Grow.alloc _ _⟩
    | 24, _, h, hd =>
      cases (show some (((some 78 : Option Tmp), (.move (.tmp 4) : Op), (none : Option (Nat × Bool)))) = some (dst, op, gd) from h)
      exact st_move 4 78 _ ((base 4 (by omega) (by omega)).trans (R.arg 4 (by omega))) ⟨_, rfl, by simp [Val9], Grow.refl _⟩
    | 25, _, h, hd =>
      cases (show some (((some 79 : Option Tmp), (.indexAddr 22 (.tmp 78) (.const (.int .i64 0)) : Op), (none : Option (Nat × Bool)))) = some (dst, op, gd) from h)
      have d := hd 24 (by simp [deps9])
      simp only [Val9, slot9] at d
      exact st_index 78 79 (D.x 4) (D.y 4) D.n (D.c 4) R.n1 R.n2 (by simpa using d) ⟨_, rfl, by simp [Val9], Grow.refl _⟩
    | 26, _, h, hd =>
      cases (show some (((some 80 : Option Tmp), (.load 35 (.tmp 79) : Op), (none : Option (Nat × Bool)))) = some (dst, op, gd) from h)
      have d := hd 25 (by simp [deps9])
      simp only [Val9, slot9] at d
      exact st_load 79 80 (D.x 4) (D.y 4) _ _ _ _ rfl (hg.cell (R.top 4 (by omega))) (by simpa using d) ⟨_, rfl, by simp [Val9], Grow.refl _⟩
    | 27, _, h, hd =>
      cases (show some (((some 81 : Option Tmp), (.move (.tmp 16) : Op), (none : Option (Nat × Bool)))) = some (dst, op, gd) from h)
      exact st_move 16 81 _ ((base 16 (by omega) (by omega)).trans R.one) ⟨_, rfl, by simp [Val9], Grow.refl _⟩
    | 28, _, h, hd =>
      cases (show some (((some 82 : Option Tmp), (.slice 35 (.tmp 80) none (some (.tmp 81)) none : Op), (none : Option (Nat × Bool)))) = some (dst, op, gd) from h)
      have d := hd 26 (by simp [deps9])
      have d' := hd 27 (by simp [deps9])
      simp only [Val9, slot9] at d d'
      exact st_slice 80 81 82 (D.p 4) (D.q 4) D.l (D.e 4) D.h R.hl (R.le 4 (by omega)) (by simpa using d) (by simpa using d') ⟨_, rfl, by simp [Val9], Grow.refl _⟩
    | 29, _, h, hd =>
      cases (show some (((some 83 : Option Tmp), (.buildSlice 22 1 #[(0, .tmp 82)] : Op), (none : Option (Nat × Bool)))) = some (dst, op, gd) from h)
      have d := hd 28 (by simp [deps9])
      simp only [Val9, slot9] at d
      exact st_build 82 83 (some ⟨D.p 4, D.q 4, none⟩) (D.h + 1) (D.e 4) (by simpa using d) ⟨_, rfl, by simp [Val9], Grow.alloc _ _⟩
    | 30, _, h, hd =>
      cases (show some (((some 84 : Option Tmp), (.move (.tmp 5) : Op), (none : Option (Nat × Bool)))) = some (dst, op, gd) from h)
      exact st_move 5 84 _ ((base 5 (by omega) (by omega)).trans R.head) ⟨_, rfl, by simp [Val9], Grow.refl _⟩
    | 31, _, h, hd =>
      cases (show some (((some 85 : Option Tmp), (.call { callee := .value (.func 9), args := #[.tmp 59, .tmp 65, .tmp 71, .tmp 77, .tmp 83, .tmp 84, .const (.int .i64 1)], argTypes := #[22, 22, 22, 22, 22, 3, 3] } : Op), (none : Option (Nat × Bool)))) = some (dst, op, gd) from h)
      have d0 := hd 5 (by simp [deps9])
      have d1 := hd 11 (by simp [deps9])
      have d2 := hd 17 (by simp [deps9])
      have d3 := hd 23 (by simp [deps9])
      have d4 := hd 29 (by simp [deps9])
      have d5 := hd 30 (by simp [deps9])
      simp [Val9, slot9, -Array.getD_eq_getD_getElem?] at d0 d1 d2 d3 d4 d5
      obtain ⟨g0, e0, k0⟩ := d0
      obtain ⟨g1, e1, k1⟩ := d1
      obtain ⟨g2, e2, k2⟩ := d2
      obtain ⟨g3, e3, k3⟩ := d3
      obtain ⟨g4, e4, k4⟩ := d4
      have G0 := cut_grid R hg 0 (by omega) g0 k0
      have G1 := cut_grid R hg 1 (by omega) g1 k1
      have G2 := cut_grid R hg 2 (by omega) g2 k2
      have G3 := cut_grid R hg 3 (by omega) g3 k3
      have G4 := cut_grid R hg 4 (by omega) g4 k4
      have C := new_any W _ _ _ _ _ 1 1 1 1 1 1 _ _ _ _ _ _ _ _ _ _ _ _ _ _ _ _ D.h 1 G0 G1 G2 G3 G4 (by omega) (by omega) (fun r _ => by have := R.hl; have := R.l2; omega) (by omega)
      exact st_call9 85 59 65 71 77 83 84 _ _ _ _ _ _ e0 e1 e2 e3 e4 d5 (R := fun v w' => Grow W w' ∧ Val9 D w.heap.size 31 w' v) (C.mono fun e w' ⟨p, he, hb, hf⟩ => ⟨_, he, hb, by simp only [Val9, if_true]; exact ⟨p, rfl, hf⟩⟩) (fun v w' hr => ⟨v, rfl, hr.2, hr.1⟩)
    | 32, _, h, hd =>
      cases (show some (((some 86 : Option Tmp), (.call { callee := .value (.func 8), args := #[.tmp 85], argTypes := #[33] } : Op), (none : Option (Nat × Bool)))) = some (dst, op, gd) from h)
      have d := hd 31 (by simp [deps9])
      simp [Val9, slot9, -Array.getD_eq_getD_getElem?] at d
      obtain ⟨p, e, H⟩ := d
      have b3 := R.bd 3 (by omega) D.h R.hl
      have b4 := R.bd 4 (by omega) D.h R.hl
      exact st_call8 86 85 _ e (R := fun v w' => Grow W w' ∧ Val9 D w.heap.size 32 w' v) ((zzfront_any p D.h _ _ _ _ _ W H b3.1 b3.2 b4.1 b4.2).mono fun e w' ⟨he, hb⟩ => ⟨_, he, hb, by simp [Val9]⟩) (fun v w' hr => ⟨v, rfl, hr.2, hr.1⟩)
    | 33, _, h, hd =>
      cases (show some (((some 17 : Option Tmp), (.alloc 31 : Op), (none : Option (Nat × Bool)))) = some (dst, op, gd) from h)
      refine st_alloc 17 ⟨_, rfl, ?_, Grow.alloc _ _⟩
      simp only [Val9]
      exact ⟨W.heap.size, rfl, by have := Below.size hg; simpa using this, heap_alloc_new _ _⟩
    | i + 34, hi, _, _ => exact absurd hi (by omega)
  · intro o ho a W hg hdf hts hot hv
    have h := hop 34 o ho
    obtain ⟨dst, op, ty, ps, af, gd⟩ := o
    cases (show some (((none : Option Tmp), (.store 31 (.tmp 17) (.tmp 86) : Op), (none : Option (Nat × Bool)))) = some (dst, op, gd) from h)
    have d1 := hv 33 (by omega)
    have d2 := hv 32 (by omega)
    simp [Val9, slot9, entryOf, -Array.getD_eq_getD_getElem?] at d1 d2
    obtain ⟨g, e, hN, hb⟩ := d1
    refine st_store 17 86 g _ _ _ _ _ e d2 hb ?_
    have hf : a = { tmps := ((List.range 148).map fun t => a.tmps.getD t undef).toArray, defers := a0.defers } := by
      obtain ⟨tm, df⟩ := a
      simp only at hdf hts ⊢
      subst hdf
      congr 1
      apply Array.ext
      · simp [hts, R.size]
      · intro j h1 h2
        simp [Array.getD_eq_getD_getElem?, h1]
    rw [hf]
    have hw : Grow w W := ⟨hg.1, hg.2, hg.3, hg.4, hg.5⟩
    refine hend (fun t => a.tmps.getD t undef) g _ (fun t h1 h2 => hot t (slot9_not t h1 h2)) e hN (by simp; exact lt_of_block hb) ?_ ⟨W, rfl, hb⟩
    exact ((((Below.setCell hw hN _).setCell hN _).setCell hN _).setCell hN _).setCell hN _
end Go.Proofs.Qxb6616828a
