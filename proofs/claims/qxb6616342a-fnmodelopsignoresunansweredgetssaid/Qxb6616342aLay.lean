/-
  The region of 'ZZModelOps' that lays a ZZOp, whole: in whatever order it comes up.
-/
import Derived.Test.Qxb6616342aOuts
namespace Go.Proofs.Qxb6616342a
open Go.RowKit

section
variable {Q : Exit → Act → World → Prop} {K : Act → World → Prop} {a : Act} {w : World} {ty : TypeId} {ps : String} {af : Array Edge} {gd : Option (Nat × Bool)}

theorem sg_field38_0 (src d b : Nat) (h : a.tmps.getD src undef = .pointer (some ⟨b, 0, none⟩)) (hK : K (a.put (some d) (.pointer (some ⟨b, 0, none⟩))) w) : Oper.wp Try.prog { dst := some d, op := .fieldAddr 38 (.tmp src) 0, type := ty, pos := ps, after := af, guard := gd } a w K Q := by
  have e : a.tmps[src]?.getD undef = .pointer (some ⟨b, 0, none⟩) := by rw [← Array.getD_eq_getD_getElem?]; exact h
  unfold Oper.wp
  go_simp
  exact hK

theorem sg_field38_2 (src d b : Nat) (h : a.tmps.getD src undef = .pointer (some ⟨b, 0, none⟩)) (hK : K (a.put (some d) (.pointer (some ⟨b, 2, none⟩))) w) : Oper.wp Try.prog { dst := some d, op := .fieldAddr 38 (.tmp src) 2, type := ty, pos := ps, after := af, guard := gd } a w K Q := by
  have e : a.tmps[src]?.getD undef = .pointer (some ⟨b, 0, none⟩) := by rw [← Array.getD_eq_getD_getElem?]; exact h
  unfold Oper.wp
  go_simp
  exact hK

theorem sg_field38_3 (src d b : Nat) (h : a.tmps.getD src undef = .pointer (some ⟨b, 0, none⟩)) (hK : K (a.put (some d) (.pointer (some ⟨b, 3, none⟩))) w) : Oper.wp Try.prog { dst := some d, op := .fieldAddr 38 (.tmp src) 3, type := ty, pos := ps, after := af, guard := gd } a w K Q := by
  have e : a.tmps[src]?.getD undef = .pointer (some ⟨b, 0, none⟩) := by rw [← Array.getD_eq_getD_getElem?]; exact h
  unfold Oper.wp
  go_simp
  exact hK

theorem sg_field38_4 (src d b : Nat) (h : a.tmps.getD src undef = .pointer (some ⟨b, 0, none⟩)) (hK : K (a.put (some d) (.pointer (some ⟨b, 4, none⟩))) w) : Oper.wp Try.prog { dst := some d, op := .fieldAddr 38 (.tmp src) 4, type := ty, pos := ps, after := af, guard := gd } a w K Q := by
  have e : a.tmps[src]?.getD undef = .pointer (some ⟨b, 0, none⟩) := by rw [← Array.getD_eq_getD_getElem?]; exact h
  unfold Oper.wp
  go_simp
  exact hK

theorem sg_field40_0 (src d b : Nat) (h : a.tmps.getD src undef = .pointer (some ⟨b, 0, none⟩)) (hK : K (a.put (some d) (.pointer (some ⟨b, 0, none⟩))) w) : Oper.wp Try.prog { dst := some d, op := .fieldAddr 40 (.tmp src) 0, type := ty, pos := ps, after := af, guard := gd } a w K Q := by
  have e : a.tmps[src]?.getD undef = .pointer (some ⟨b, 0, none⟩) := by rw [← Array.getD_eq_getD_getElem?]; exact h
  unfold Oper.wp
  go_simp
  exact hK

theorem sg_field40_1 (src d b : Nat) (h : a.tmps.getD src undef = .pointer (some ⟨b, 0, none⟩)) (hK : K (a.put (some d) (.pointer (some ⟨b, 1, none⟩))) w) : Oper.wp Try.prog { dst := some d, op := .fieldAddr 40 (.tmp src) 1, type := ty, pos := ps, after := af, guard := gd } a w K Q := by
  have e : a.tmps[src]?.getD undef = .pointer (some ⟨b, 0, none⟩) := by rw [← Array.getD_eq_getD_getElem?]; exact h
  unfold Oper.wp
  go_simp
  exact hK

theorem sg_field40_2 (src d b : Nat) (h : a.tmps.getD src undef = .pointer (some ⟨b, 0, none⟩)) (hK : K (a.put (some d) (.pointer (some ⟨b, 2, none⟩))) w) : Oper.wp Try.prog { dst := some d, op := .fieldAddr 40 (.tmp src) 2, type := ty, pos := ps, after := af, guard := gd } a w K Q := by
  have e : a.tmps[src]?.getD undef = .pointer (some ⟨b, 0, none⟩) := by rw [← Array.getD_eq_getD_getElem?]; exact h
  unfold Oper.wp
  go_simp
  exact hK

theorem sg_load3 (src d b o : Nat) (x : Int) (hc : w.cell? ⟨b, o, none⟩ = some (.int .i64 x)) (h : a.tmps.getD src undef = .pointer (some ⟨b, o, none⟩)) (hK : K (a.put (some d) (.int .i64 x)) w) :
    Oper.wp Try.prog { dst := some d, op := .load 3 (.tmp src), type := ty, pos := ps, after := af, guard := gd } a w K Q := by
  have e : a.tmps[src]?.getD undef = .pointer (some ⟨b, o, none⟩) := by rw [← Array.getD_eq_getD_getElem?]; exact h
  unfold Oper.wp
  go_simp
  exact hK

theorem sg_load2 (src d b o : Nat) (x : Int) (hc : w.cell? ⟨b, o, none⟩ = some (.int .i64 x)) (h : a.tmps.getD src undef = .pointer (some ⟨b, o, none⟩)) (hK : K (a.put (some d) (.int .i64 x)) w) :
    Oper.wp Try.prog { dst := some d, op := .load 2 (.tmp src), type := ty, pos := ps, after := af, guard := gd } a w K Q := by
  have e : a.tmps[src]?.getD undef = .pointer (some ⟨b, o, none⟩) := by rw [← Array.getD_eq_getD_getElem?]; exact h
  unfold Oper.wp
  go_simp
  exact hK

theorem sg_load9 (src d b o : Nat) (x : ByteArray) (hc : w.cell? ⟨b, o, none⟩ = some (.string x)) (h : a.tmps.getD src undef = .pointer (some ⟨b, o, none⟩)) (hK : K (a.put (some d) (.string x)) w) :
    Oper.wp Try.prog { dst := some d, op := .load 9 (.tmp src), type := ty, pos := ps, after := af, guard := gd } a w K Q := by
  have e : a.tmps[src]?.getD undef = .pointer (some ⟨b, o, none⟩) := by rw [← Array.getD_eq_getD_getElem?]; exact h
  unfold Oper.wp
  go_simp
  exact hK

theorem sg_load20 (src d b o : Nat) (x : Option Int) (hc : w.cell? ⟨b, o, none⟩ = some (outVal x)) (h : a.tmps.getD src undef = .pointer (some ⟨b, o, none⟩)) (hK : K (a.put (some d) (outVal x)) w) :
    Oper.wp Try.prog { dst := some d, op := .load 20 (.tmp src), type := ty, pos := ps, after := af, guard := gd } a w K Q := by
  have e : a.tmps[src]?.getD undef = .pointer (some ⟨b, o, none⟩) := by rw [← Array.getD_eq_getD_getElem?]; exact h
  cases x <;> simp only [outVal] at hc hK <;> unfold Oper.wp <;> go_simp <;> exact hK

theorem sg_eql20 (src d : Nat) (x : Option Int) (h : a.tmps.getD src undef = outVal x) (hK : K (a.put (some d) (.bool x.isNone)) w) :
    Oper.wp Try.prog { dst := some d, op := .binOp .eql 20 (.tmp src) (.const .nilIface) 20, type := ty, pos := ps, after := af, guard := gd } a w K Q := by
  have e : a.tmps[src]?.getD undef = outVal x := by rw [← Array.getD_eq_getD_getElem?]; exact h
  cases x <;> simp only [outVal] at e <;> simp only [Option.isNone] at hK <;> unfold Oper.wp <;> go_simp <;> exact hK

theorem sg_build34 (d s0 s1 s2 s3 s5 s6 s7 : Nat) (x0 : Int) (x1 : ByteArray) (x2 : Bool) (x3 : Int) (x5 : Bool) (x6 x7 : Int) (h0 : a.tmps.getD s0 undef = .int .i64 x0) (h1 : a.tmps.getD s1 undef = .string x1) (h2 : a.tmps.getD s2 undef = .bool x2) (h3 : a.tmps.getD s3 undef = .int .i64 x3) (h5 : a.tmps.getD s5 undef = .bool x5) (h6 : a.tmps.getD s6 undef = .int .i64 x6) (h7 : a.tmps.getD s7 undef = .int .i64 x7)
    (hK : K (a.put (some d) (.agg #[.int .i64 x0, .string x1, .bool x2, .int .i64 x3, .int .i64 0, .bool x5, .int .i64 x6, .int .i64 x7])) w) :
    Oper.wp Try.prog { dst := some d, op := .build 34 #[(0, .tmp s0), (1, .tmp s1), (2, .tmp s2), (3, .tmp s3), (5, .tmp s5), (6, .tmp s6), (7, .tmp s7)], type := ty, pos := ps, after := af, guard := gd } a w K Q := by
  have e0 : a.tmps[s0]?.getD undef = .int .i64 x0 := by rw [← Array.getD_eq_getD_getElem?]; exact h0
  have e1 : a.tmps[s1]?.getD undef = .string x1 := by rw [← Array.getD_eq_getD_getElem?]; exact h1
  have e2 : a.tmps[s2]?.getD undef = .bool x2 := by rw [← Array.getD_eq_getD_getElem?]; exact h2
  have e3 : a.tmps[s3]?.getD undef = .int .i64 x3 := by rw [← Array.getD_eq_getD_getElem?]; exact h3
  have e5 : a.tmps[s5]?.getD undef = .bool x5 := by rw [← Array.getD_eq_getD_getElem?]; exact h5
  have e6 : a.tmps[s6]?.getD undef = .int .i64 x6 := by rw [← Array.getD_eq_getD_getElem?]; exact h6
  have e7 : a.tmps[s7]?.getD undef = .int .i64 x7 := by rw [← Array.getD_eq_getD_getElem?]; exact h7
  unfold Oper.wp
  go_simp
  exact hK

theorem sg_alloc34 (d : Nat) (hK : K (a.put (some d) (.pointer (some ⟨w.heap.size, 0, none⟩))) (w.alloc (.cells #[.int .i64 0, .string ByteArray.empty, .bool false, .int .i64 0, .int .i64 0, .bool false, .int .i64 0, .int .i64 0] 34))) :
    Oper.wp Try.prog { dst := some d, op := .alloc 34, type := ty, pos := ps, after := af, guard := gd } a w K Q := by
  unfold Oper.wp
  go_simp
  exact hK

theorem sg_store34 (s1 s2 g : Nat) (x0 : Int) (x1 : ByteArray) (x2 : Bool) (x3 x4 : Int) (x5 : Bool) (x6 x7 : Int) (h1 : a.tmps.getD s1 undef = .pointer (some ⟨g, 0, none⟩)) (h2 : a.tmps.getD s2 undef = .agg #[.int .i64 x0, .string x1, .bool x2, .int .i64 x3, .int .i64 x4, .bool x5, .int .i64 x6, .int .i64 x7])
    (hg : w.heap[g]? = some (.cells #[.int .i64 0, .string ByteArray.empty, .bool false, .int .i64 0, .int .i64 0, .bool false, .int .i64 0, .int .i64 0] 34 (0, 0)))
    (hK : K a ((((((((w.setCell ⟨g, 0, none⟩ (.int .i64 x0)).setCell ⟨g, 1, none⟩ (.string x1)).setCell ⟨g, 2, none⟩ (.bool x2)).setCell ⟨g, 3, none⟩ (.int .i64 x3)).setCell ⟨g, 4, none⟩ (.int .i64 x4)).setCell ⟨g, 5, none⟩ (.bool x5)).setCell ⟨g, 6, none⟩ (.int .i64 x6)).setCell ⟨g, 7, none⟩ (.int .i64 x7))) :
    Oper.wp Try.prog { dst := none, op := .store 34 (.tmp s1) (.tmp s2), type := ty, pos := ps, after := af, guard := gd } a w K Q := by
  have e1 : a.tmps[s1]?.getD undef = .pointer (some ⟨g, 0, none⟩) := by rw [← Array.getD_eq_getD_getElem?]; exact h1
  have e2 : a.tmps[s2]?.getD undef = .agg #[.int .i64 x0, .string x1, .bool x2, .int .i64 x3, .int .i64 x4, .bool x5, .int .i64 x6, .int .i64 x7] := by rw [← Array.getD_eq_getD_getElem?]; exact h2
  have c0 : w.cell? ⟨g, 0, none⟩ = some (.int .i64 0) := by simp [World.cell?, hg]
  have f0 : w.frozen? ⟨g, 0, none⟩ = false := by simp [World.frozen?, hg]
  have c1 : w.cell? ⟨g, 1, none⟩ = some (.string ByteArray.empty) := by simp [World.cell?, hg]
  have f1 : w.frozen? ⟨g, 1, none⟩ = false := by simp [World.frozen?, hg]
  have c2 : w.cell? ⟨g, 2, none⟩ = some (.bool false) := by simp [World.cell?, hg]
  have f2 : w.frozen? ⟨g, 2, none⟩ = false := by simp [World.frozen?, hg]
  have c3 : w.cell? ⟨g, 3, none⟩ = some (.int .i64 0) := by simp [World.cell?, hg]
  have f3 : w.frozen? ⟨g, 3, none⟩ = false := by simp [World.frozen?, hg]
  have c4 : w.cell? ⟨g, 4, none⟩ = some (.int .i64 0) := by simp [World.cell?, hg]
  have f4 : w.frozen? ⟨g, 4, none⟩ = false := by simp [World.frozen?, hg]
  have c5 : w.cell? ⟨g, 5, none⟩ = some (.bool false) := by simp [World.cell?, hg]
  have f5 : w.frozen? ⟨g, 5, none⟩ = false := by simp [World.frozen?, hg]
  have c6 : w.cell? ⟨g, 6, none⟩ = some (.int .i64 0) := by simp [World.cell?, hg]
  have f6 : w.frozen? ⟨g, 6, none⟩ = false := by simp [World.frozen?, hg]
  have c7 : w.cell? ⟨g, 7, none⟩ = some (.int .i64 0) := by simp [World.cell?, hg]
  have f7 : w.frozen? ⟨g, 7, none⟩ = false := by simp [World.frozen?, hg]
  clear hg h1 h2
  unfold Oper.wp
  go_simp
  exact hK
end

structure Src7 where
  y : Nat
  x : Nat
  o : Out

def slot7 (i : Nat) : Nat := if i = 16 then 8 else 26 + i
def deps7 (i : Nat) : List Nat :=
  match i with
  | 0 => []
  | 1 => [0]
  | 2 => []
  | 3 => [2]
  | 4 => []
  | 5 => [4]
  | 6 => []
  | 7 => [6]
  | 8 => []
  | 9 => [8]
  | 10 => [9]
  | 11 => []
  | 12 => [11]
  | 13 => []
  | 14 => [13]
  | 15 => [1, 3, 5, 7, 10, 12, 14]
  | 16 => []
  | _ => []

def Val7 (D : Src7) (N : Nat) (i : Nat) (w : World) (v : Value) : Prop :=
  match i with
  | 0 => v = .pointer (some ⟨D.y, 0, none⟩)
  | 1 => v = .int .i64 D.o.client
  | 2 => v = .pointer (some ⟨D.x, 0, none⟩)
  | 3 => v = .string D.o.key
  | 4 => v = .pointer (some ⟨D.x, 1, none⟩)
  | 5 => v = .bool D.o.put
  | 6 => v = .pointer (some ⟨D.x, 2, none⟩)
  | 7 => v = .int .i64 D.o.inv
  | 8 => v = .pointer (some ⟨D.y, 3, none⟩)
  | 9 => v = outVal D.o.out
  | 10 => v = .bool D.o.out.isNone
  | 11 => v = .pointer (some ⟨D.y, 2, none⟩)
  | 12 => v = .int .i64 D.o.call
  | 13 => v = .pointer (some ⟨D.y, 4, none⟩)
  | 14 => v = .int .i64 D.o.ret
  | 15 => v = .agg #[.int .i64 D.o.client, .string D.o.key, .bool D.o.put, .int .i64 D.o.inv, .int .i64 0, .bool D.o.out.isNone, .int .i64 D.o.call, .int .i64 D.o.ret]
  | 16 => ∃ g, v = .pointer (some ⟨g, 0, none⟩) ∧ N ≤ g ∧ w.heap[g]? = some (.cells #[.int .i64 0, .string ByteArray.empty, .bool false, .int .i64 0, .int .i64 0, .bool false, .int .i64 0, .int .i64 0] 34 (0, 0))
  | _ => True

def ops7 : Array (Option Tmp × Op × Option (Nat × Bool)) := #[
  (some 26, .fieldAddr 38 (.tmp 6) 0, none),
  (some 27, .load 3 (.tmp 26), none),
  (some 28, .fieldAddr 40 (.tmp 7) 0, none),
  (some 29, .load 9 (.tmp 28), none),
  (some 30, .fieldAddr 40 (.tmp 7) 1, none),
  (some 31, .load 4 (.tmp 30), none),
  (some 32, .fieldAddr 40 (.tmp 7) 2, none),
  (some 33, .load 3 (.tmp 32), none),
  (some 34, .fieldAddr 38 (.tmp 6) 3, none),
  (some 35, .load 20 (.tmp 34), none),
  (some 36, .binOp .eql 20 (.tmp 35) (.const .nilIface) 20, none),
  (some 37, .fieldAddr 38 (.tmp 6) 2, none),
  (some 38, .load 2 (.tmp 37), none),
  (some 39, .fieldAddr 38 (.tmp 6) 4, none),
  (some 40, .load 2 (.tmp 39), none),
  (some 41, .build 34 #[(0, .tmp 27), (1, .tmp 29), (2, .tmp 31), (3, .tmp 33), (5, .tmp 36), (6, .tmp 38), (7, .tmp 40)], none),
  (some 8, .alloc 34, none),
  (none, .store 34 (.tmp 8) (.tmp 41), none)]

structure Ready7 (D : Src7) (a : Act) (w : World) : Prop where
  size : a.tmps.size = 57
  h6 : a.tmps.getD 6 undef = .pointer (some ⟨D.y, 0, none⟩)
  h7 : a.tmps.getD 7 undef = .pointer (some ⟨D.x, 0, none⟩)
  y0 : w.cell? ⟨D.y, 0, none⟩ = some (.int .i64 D.o.client)
  y2 : w.cell? ⟨D.y, 2, none⟩ = some (.int .i64 D.o.call)
  y3 : w.cell? ⟨D.y, 3, none⟩ = some (outVal D.o.out)
  y4 : w.cell? ⟨D.y, 4, none⟩ = some (.int .i64 D.o.ret)
  x0 : w.cell? ⟨D.x, 0, none⟩ = some (.string D.o.key)
  x1 : w.cell? ⟨D.x, 1, none⟩ = some (.bool D.o.put)
  x2 : w.cell? ⟨D.x, 2, none⟩ = some (.int .i64 D.o.inv)

theorem keep7 {D : Src7} {N : Nat} {w w' : World} (hg : Below w.heap.size w w') (j : Nat) (u : Value) (h : Val7 D N j w u) : Val7 D N j w' u := by
  by_cases h16 : j = 16
  · subst h16
    obtain ⟨g, e, hN, hb⟩ := h
    exact ⟨g, e, hN, (hg.block g (lt_of_block hb)).trans hb⟩
  · have e : Val7 D N j w' u = Val7 D N j w u := by
      unfold Val7
      split <;> first | rfl | (exact absurd rfl h16)
    rw [e]
    exact h

set_option maxHeartbeats 2000000 in
set_option maxRecDepth 100000 in
theorem region7 {ops : Array Oper} {Q : Exit → Act → World → Prop} {id : Nat} {a0 : Act} {w : World} (D : Src7) (hops : ops.map (fun o => (o.dst, o.op, o.guard)) = ops7) (hback : backB ops = true) (hdeps : depsB ops 17 deps7 = true) (hall : allB ops 17 = true)
    (hm : Try.prog.follows .mixedOrders = true) (R : Ready7 D a0 w.drew)
    (hend : ∀ (f : Nat → Value) (g : Nat) (W : World), Below w.heap.size w W → w.heap.size ≤ g → W.heap[g]? = some (.cells #[.int .i64 D.o.client, .string D.o.key, .bool D.o.put, .int .i64 D.o.inv, .int .i64 0, .bool D.o.out.isNone, .int .i64 D.o.call, .int .i64 D.o.ret] 34 (0, 0)) → Q .normal (puts (a0.put (some 8) (.pointer (some ⟨g, 0, none⟩))) f [26, 27, 28, 29, 30, 31, 32, 33, 34, 35, 36, 37, 38, 39, 40, 41]) W) :
    (Code.region id ops true).wp Try.prog Q a0 w := by
  have hsz : ops.size = 17 + 1 := by
    have := congrArg Array.size hops
    simpa [ops7] using this
  have hop : ∀ (i : Nat) (o : Oper), ops[i]? = some o → ops7[i]? = some (o.dst, o.op, o.guard) := fun i o ho => by
    rw [← hops, Array.getElem?_map, ho]; rfl
  refine region_grow (Inv := fun _ W => Below w.heap.size w.drew W) (m := 17) (slot := slot7) (Val := Val7 D w.heap.size) (deps := deps7) hm (fun L _ => Below.refl _ _) hsz (fun i j _ _ h => by unfold slot7 at h; split at h <;> split at h <;> omega) (fun i hi => by rw [R.size]; unfold slot7; split <;> omega) (fun i o ho => (back_of hback i o ho).2) (deps_of hdeps) (all_of hall) ?_ ?_
  · intro i o hi ho L a W hL hI hot hd
    have h := hop i o ho
    refine wpOp_plain ho (guard_of hback i o ho) ?_
    obtain ⟨dst, op, ty, ps, af, gd⟩ := o
    have base : ∀ t, t < 26 → t ≠ 8 → a.tmps.getD t undef = a0.tmps.getD t undef := fun t h1 h2 => hot t (fun i _ => by unfold slot7; split <;> omega)
    clear hot ho
    match i, hi, h, hd with
    | 0, _, h, hd =>
      cases (show some (((some 26 : Option Tmp), (.fieldAddr 38 (.tmp 6) 0 : Op), (none : Option (Nat × Bool)))) = some (dst, op, gd) from h)
      exact sg_field38_0 6 26 D.y ((base 6 (by omega) (by omega)).trans R.h6) ⟨_, rfl, by simp [Val7], hI, fun _ _ _ _ h => h⟩
    | 1, _, h, hd =>
      cases (show some (((some 27 : Option Tmp), (.load 3 (.tmp 26) : Op), (none : Option (Nat × Bool)))) = some (dst, op, gd) from h)
      have d := hd 0 (by simp [deps7])
      simp [Val7, slot7, -Array.getD_eq_getD_getElem?] at d
      exact sg_load3 26 27 D.y 0 _ (below_cell hI R.y0) d ⟨_, rfl, by simp [Val7], hI, fun _ _ _ _ h => h⟩
    | 2, _, h, hd =>
      cases (show some (((some 28 : Option Tmp), (.fieldAddr 40 (.tmp 7) 0 : Op), (none : Option (Nat × Bool)))) = some (dst, op, gd) from h)
      exact sg_field40_0 7 28 D.x ((base 7 (by omega) (by omega)).trans R.h7) ⟨_, rfl, by simp [Val7], hI, fun _ _ _ _ h => h⟩
    | 3, _, h, hd =>
      cases (show some (((some 29 : Option Tmp), (.load 9 (.tmp 28) : Op), (none : Option (Nat × Bool)))) = some (dst, op, gd) from h)
      have d := hd 2 (by simp [deps7])
      simp [Val7, slot7, -Array.getD_eq_getD_getElem?] at d
      exact sg_load9 28 29 D.x 0 _ (below_cell hI R.x0) d ⟨_, rfl, by simp [Val7], hI, fun _ _ _ _ h => h⟩
    | 4, _, h, hd =>
      cases (show some (((some 30 : Option Tmp), (.fieldAddr 40 (.tmp 7) 1 : Op), (none : Option (Nat × Bool)))) = some (dst, op, gd) from h)
      exact sg_field40_1 7 30 D.x ((base 7 (by omega) (by omega)).trans R.h7) ⟨_, rfl, by simp [Val7], hI, fun _ _ _ _ h => h⟩
    | 5, _, h, hd =>
      cases (show some (((some 31 : Option Tmp), (.load 4 (.tmp 30) : Op), (none : Option (Nat × Bool)))) = some (dst, op, gd) from h)
      have d := hd 4 (by simp [deps7])
      simp [Val7, slot7, -Array.getD_eq_getD_getElem?] at d
      exact sg_load4 30 31 D.x 1 _ (below_cell hI R.x1) d ⟨_, rfl, by simp [Val7], hI, fun _ _ _ _ h => h⟩
    | 6, _, h, hd =>
      cases (show some (((some 32 : Option Tmp), (.fieldAddr 40 (.tmp 7) 2 : Op), (none : Option (Nat × Bool)))) = some (dst, op, gd) from h)
      exact sg_field40_2 7 32 D.x ((base 7 (by omega) (by omega)).trans R.h7) ⟨_, rfl, by simp [Val7], hI, fun _ _ _ _ h => h⟩
    | 7, _, h, hd =>
      cases (show some (((some 33 : Option Tmp), (.load 3 (.tmp 32) : Op), (none : Option (Nat × Bool)))) = some (dst, op, gd) from h)
      have d := hd 6 (by simp [deps7])
      simp [Val7, slot7, -Array.getD_eq_getD_getElem?] at d
      exact sg_load3 32 33 D.x 2 _ (below_cell hI R.x2) d ⟨_, rfl, by simp [Val7], hI, fun _ _ _ _ h => h⟩
    | 8, _, h, hd =>
      cases (show some (((some 34 : Option Tmp), (.fieldAddr 38 (.tmp 6) 3 : Op), (none : Option (Nat × Bool)))) = some (dst, op, gd) from h)
      exact sg_field38_3 6 34 D.y ((base 6 (by omega) (by omega)).trans R.h6) ⟨_, rfl, by simp [Val7], hI, fun _ _ _ _ h => h⟩
    | 9, _, h, hd =>
      cases (show some (((some 35 : Option Tmp), (.load 20 (.tmp 34) : Op), (none : Option (Nat × Bool)))) = some (dst, op, gd) from h)
      have d := hd 8 (by simp [deps7])
      simp [Val7, slot7, -Array.getD_eq_getD_getElem?] at d
      exact sg_load20 34 35 D.y 3 _ (below_cell hI R.y3) d ⟨_, rfl, by simp [Val7], hI, fun _ _ _ _ h => h⟩
    | 10, _, h, hd =>
      cases (show some (((some 36 : Option Tmp), (.binOp .eql 20 (.tmp 35) (.const .nilIface) 20 : Op), (none : Option (Nat × Bool)))) = some (dst, op, gd) from h)
      have d := hd 9 (by simp [deps7])
      simp [Val7, slot7, -Array.getD_eq_getD_getElem?] at d
      exact sg_eql20 35 36 D.o.out d ⟨_, rfl, by simp [Val7], hI, fun _ _ _ _ h => h⟩
    | 11, _, h, hd =>
      cases (show some (((some 37 : Option Tmp), (.fieldAddr 38 (.tmp 6) 2 : Op), (none : Option (Nat × Bool)))) = some (dst, op, gd) from h)
      exact sg_field38_2 6 37 D.y ((base 6 (by omega) (by omega)).trans R.h6) ⟨_, rfl, by simp [Val7], hI, fun _ _ _ _ h => h⟩
    | 12, _, h, hd =>
      cases (show some (((some 38 : Option Tmp), (.load 2 (.tmp 37) : Op), (none : Option (Nat × Bool)))) = some (dst, op, gd) from h)
      have d := hd 11 (by simp [deps7])
      simp [Val7, slot7, -Array.getD_eq_getD_getElem?] at d
      exact sg_load2 37 38 D.y 2 _ (below_cell hI R.y2) d ⟨_, rfl, by simp [Val7], hI, fun _ _ _ _ h => h⟩
    | 13, _, h, hd =>
      cases (show some (((some 39 : Option Tmp), (.fieldAddr 38 (.tmp 6) 4 : Op), (none : Option (Nat × Bool)))) = some (dst, op, gd) from h)
      exact sg_field38_4 6 39 D.y ((base 6 (by omega) (by omega)).trans R.h6) ⟨_, rfl, by simp [Val7], hI, fun _ _ _ _ h => h⟩
    | 14, _, h, hd =>
      cases (show some (((some 40 : Option Tmp), (.load 2 (.tmp 39) : Op), (none : Option (Nat × Bool)))) = some (dst, op, gd) from h)
      have d := hd 13 (by simp [deps7])
      simp [Val7, slot7, -Array.getD_eq_getD_getElem?] at d
      exact sg_load2 39 40 D.y 4 _ (below_cell hI R.y4) d ⟨_, rfl, by simp [Val7], hI, fun _ _ _ _ h => h⟩
    | 15, _, h, hd =>
      cases (show some (((some 41 : Option Tmp), (.build 34 #[(0, .tmp 27), (1, .tmp 29), (2, .tmp 31), (3, .tmp 33), (5, .tmp 36), (6, .tmp 38), (7, .tmp 40)] : Op), (none : Option (Nat × Bool)))) = some (dst, op, gd) from h)
      have d1 := hd 1 (by simp [deps7])
      simp [Val7, slot7, -Array.getD_eq_getD_getElem?] at d1
      have d3 := hd 3 (by simp [deps7])
      simp [Val7, slot7, -Array.getD_eq_getD_getElem?] at d3
      have d5 := hd 5 (by simp [deps7])
      simp [Val7, slot7, -Array.getD_eq_getD_getElem?] at d5
      have d7 := hd 7 (by simp [deps7])
      simp [Val7, slot7, -Array.getD_eq_getD_getElem?] at d7
      have d10 := hd 10 (by simp [deps7])
      simp [Val7, slot7, -Array.getD_eq_getD_getElem?] at d10
      have d12 := hd 12 (by simp [deps7])
      simp [Val7, slot7, -Array.getD_eq_getD_getElem?] at d12
      have d14 := hd 14 (by simp [deps7])
      simp [Val7, slot7, -Array.getD_eq_getD_getElem?] at d14
      exact sg_build34 41 27 29 31 33 36 38 40 _ _ _ _ _ _ _ d1 d3 d5 d7 d10 d12 d14 ⟨_, rfl, by simp [Val7], hI, fun _ _ _ _ h => h⟩
    | 16, _, h, hd =>
      cases (show some (((some 8 : Option Tmp), (.alloc 34 : Op), (none : Option (Nat × Bool)))) = some (dst, op, gd) from h)
      refine sg_alloc34 8 ⟨_, rfl, ⟨W.heap.size, rfl, by have := hI.size; simpa using this, heap_alloc_new _ _⟩, Below.alloc hI hI.size _, fun j u _ _ h => keep7 ((Below.refl _ _).alloc (Nat.le_refl _) _) j u h⟩
    | i + 17, hi, _, _ => exact absurd hi (by omega)
  · intro o ho L a W hI hdf hts hot hv
    have h := hop 17 o ho
    refine wpOp_plain ho (guard_of hback 17 o ho) ?_
    obtain ⟨dst, op, ty, ps, af, gd⟩ := o
    cases (show some (((none : Option Tmp), (.store 34 (.tmp 8) (.tmp 41) : Op), (none : Option (Nat × Bool)))) = some (dst, op, gd) from h)
    have d1 := hv 16 (by omega)
    have d2 := hv 15 (by omega)
    simp [Val7, slot7, -Array.getD_eq_getD_getElem?] at d1 d2
    obtain ⟨g, e, hN, hb⟩ := d1
    refine sg_store34 8 41 g _ _ _ _ _ _ _ _ e d2 hb ?_
    have hg := puts_spec (fun t => a.tmps.getD t undef) [26, 27, 28, 29, 30, 31, 32, 33, 34, 35, 36, 37, 38, 39, 40, 41] (a0.put (some 8) (.pointer (some ⟨g, 0, none⟩)))
    have hE : a = puts (a0.put (some 8) (.pointer (some ⟨g, 0, none⟩))) (fun t => a.tmps.getD t undef) [26, 27, 28, 29, 30, 31, 32, 33, 34, 35, 36, 37, 38, 39, 40, 41] := by
      refine act_ext (by rw [hg.1]; simp [Act.put, hts]) (by rw [hg.2.1]; exact hdf) (fun t => ?_)
      rw [hg.2.2, put_get, R.size, show (a0.put (some 8) (.pointer (some ⟨g, 0, none⟩))).tmps.size = 57 by simp [Act.put, R.size]]
      split
      · rfl
      · rename_i hn
        by_cases h8 : 8 = t
        · subst h8
          rw [if_pos ⟨rfl, by omega⟩]
          exact e
        · rw [if_neg (fun h => h8 h.1)]
          refine hot t (fun i hi e' => hn ?_)
          unfold slot7 at e'
          split at e'
          · exact absurd e' h8
          · subst e'
            refine ⟨?_, by omega⟩
            simp only [List.mem_cons, List.not_mem_nil, or_false]
            omega
    have hw : Below w.heap.size w W := ⟨hI.os, hI.tape, hI.output, hI.size, hI.block⟩
    have hend' := hend (fun t => a.tmps.getD t undef) g _ (((((((((hw.setCell (p := ⟨g, 0, none⟩) hN (.int .i64 D.o.client)).setCell (p := ⟨g, 1, none⟩) hN (.string D.o.key)).setCell (p := ⟨g, 2, none⟩) hN (.bool D.o.put)).setCell (p := ⟨g, 3, none⟩) hN (.int .i64 D.o.inv)).setCell (p := ⟨g, 4, none⟩) hN (.int .i64 0)).setCell (p := ⟨g, 5, none⟩) hN (.bool D.o.out.isNone)).setCell (p := ⟨g, 6, none⟩) hN (.int .i64 D.o.call)).setCell (p := ⟨g, 7, none⟩) hN (.int .i64 D.o.ret))) hN (by
      rw [heap_setCell_same _ g 7 _ 34 _ (heap_setCell_same _ g 6 _ 34 _ (heap_setCell_same _ g 5 _ 34 _ (heap_setCell_same _ g 4 _ 34 _ (heap_setCell_same _ g 3 _ 34 _ (heap_setCell_same _ g 2 _ 34 _ (heap_setCell_same _ g 1 _ 34 _ (heap_setCell_same _ g 0 _ 34 _ hb)))))))]
      rfl)
    rw [← hE] at hend'
    exact hend'
end Go.Proofs.Qxb6616342a
