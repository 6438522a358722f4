/-
  The test of 'modelOps'' second loop ('op.answered() && (!p.seen || op.ret < p.seenBy)'), whole: in whatever order it comes up.
-/
import Derived.Test.Qxb6616342aPending
namespace Go.Proofs.Qxb6616342a
open Go.RowKit

section
variable {Q : Exit → Act → World → Prop} {K : Act → World → Prop} {a : Act} {w : World} {ty : TypeId} {ps : String} {af : Array Edge} {gd : Option (Nat × Bool)}

theorem sg_move (src d : Nat) (V : Value) (h : a.tmps.getD src undef = V) (hK : K (a.put (some d) V) w) : Oper.wp Try.prog { dst := some d, op := .move (.tmp src), type := ty, pos := ps, after := af, guard := gd } a w K Q := by
  have e : a.eval (.tmp src) = V := h
  unfold Oper.wp
  simp only [execOp, e]
  exact hK

theorem sg_assign (src d : Nat) (V : Value) (h : a.tmps.getD src undef = V) (hK : K (a.put (some d) V) w) : Oper.wp Try.prog { dst := some d, op := .assign (.tmp src), type := ty, pos := ps, after := af, guard := gd } a w K Q := by
  have e : a.eval (.tmp src) = V := h
  unfold Oper.wp
  simp only [execOp, e]
  exact hK

theorem sg_nil (src d b o : Nat) (h : a.tmps.getD src undef = .pointer (some ⟨b, o, none⟩)) (hK : K (a.put (some d) (.pointer (some ⟨b, o, none⟩))) w) : Oper.wp Try.prog { dst := some d, op := .nilCheck (.tmp src), type := ty, pos := ps, after := af, guard := gd } a w K Q := by
  have e : a.tmps[src]?.getD undef = .pointer (some ⟨b, o, none⟩) := by rw [← Array.getD_eq_getD_getElem?]; exact h
  unfold Oper.wp
  go_simp
  exact hK

theorem sg_field53_1 (src d b : Nat) (h : a.tmps.getD src undef = .pointer (some ⟨b, 0, none⟩)) (hK : K (a.put (some d) (.pointer (some ⟨b, 1, none⟩))) w) : Oper.wp Try.prog { dst := some d, op := .fieldAddr 53 (.tmp src) 1, type := ty, pos := ps, after := af, guard := gd } a w K Q := by
  have e : a.tmps[src]?.getD undef = .pointer (some ⟨b, 0, none⟩) := by rw [← Array.getD_eq_getD_getElem?]; exact h
  unfold Oper.wp
  go_simp
  exact hK

theorem sg_field53_2 (src d b : Nat) (h : a.tmps.getD src undef = .pointer (some ⟨b, 0, none⟩)) (hK : K (a.put (some d) (.pointer (some ⟨b, 2, none⟩))) w) : Oper.wp Try.prog { dst := some d, op := .fieldAddr 53 (.tmp src) 2, type := ty, pos := ps, after := af, guard := gd } a w K Q := by
  have e : a.tmps[src]?.getD undef = .pointer (some ⟨b, 0, none⟩) := by rw [← Array.getD_eq_getD_getElem?]; exact h
  unfold Oper.wp
  go_simp
  exact hK

theorem sg_field48_5 (src d b : Nat) (h : a.tmps.getD src undef = .pointer (some ⟨b, 0, none⟩)) (hK : K (a.put (some d) (.pointer (some ⟨b, 5, none⟩))) w) : Oper.wp Try.prog { dst := some d, op := .fieldAddr 48 (.tmp src) 5, type := ty, pos := ps, after := af, guard := gd } a w K Q := by
  have e : a.tmps[src]?.getD undef = .pointer (some ⟨b, 0, none⟩) := by rw [← Array.getD_eq_getD_getElem?]; exact h
  unfold Oper.wp
  go_simp
  exact hK

theorem sg_load46 (src d b o : Nat) (x : Int) (hc : w.cell? ⟨b, o, none⟩ = some (.int .i64 x)) (h : a.tmps.getD src undef = .pointer (some ⟨b, o, none⟩)) (hK : K (a.put (some d) (.int .i64 x)) w) :
    Oper.wp Try.prog { dst := some d, op := .load 46 (.tmp src), type := ty, pos := ps, after := af, guard := gd } a w K Q := by
  have e : a.tmps[src]?.getD undef = .pointer (some ⟨b, o, none⟩) := by rw [← Array.getD_eq_getD_getElem?]; exact h
  unfold Oper.wp
  go_simp
  exact hK

theorem sg_load4 (src d b o : Nat) (x : Bool) (hc : w.cell? ⟨b, o, none⟩ = some (.bool x)) (h : a.tmps.getD src undef = .pointer (some ⟨b, o, none⟩)) (hK : K (a.put (some d) (.bool x)) w) :
    Oper.wp Try.prog { dst := some d, op := .load 4 (.tmp src), type := ty, pos := ps, after := af, guard := gd } a w K Q := by
  have e : a.tmps[src]?.getD undef = .pointer (some ⟨b, o, none⟩) := by rw [← Array.getD_eq_getD_getElem?]; exact h
  unfold Oper.wp
  go_simp
  exact hK

theorem sg_load48 (src d b : Nat) (x0 : Int) (x1 : Bool) (x2 : ByteArray) (x3 x4 x5 : Int) (c0 : w.cell? ⟨b, 0, none⟩ = some (.int .i64 x0)) (c1 : w.cell? ⟨b, 1, none⟩ = some (.bool x1)) (c2 : w.cell? ⟨b, 2, none⟩ = some (.string x2)) (c3 : w.cell? ⟨b, 3, none⟩ = some (.int .i64 x3)) (c4 : w.cell? ⟨b, 4, none⟩ = some (.int .i64 x4)) (c5 : w.cell? ⟨b, 5, none⟩ = some (.int .i64 x5))
    (h : a.tmps.getD src undef = .pointer (some ⟨b, 0, none⟩)) (hK : K (a.put (some d) (.agg #[.int .i64 x0, .bool x1, .string x2, .int .i64 x3, .int .i64 x4, .int .i64 x5])) w) :
    Oper.wp Try.prog { dst := some d, op := .load 48 (.tmp src), type := ty, pos := ps, after := af, guard := gd } a w K Q := by
  have e : a.tmps[src]?.getD undef = .pointer (some ⟨b, 0, none⟩) := by rw [← Array.getD_eq_getD_getElem?]; exact h
  unfold Oper.wp
  go_simp
  exact hK

theorem sg_not (src d : Nat) (x : Bool) (h : a.tmps.getD src undef = .bool x) (hK : K (a.put (some d) (.bool (!x))) w) : Oper.wp Try.prog { dst := some d, op := .unOp .not 4 (.tmp src), type := ty, pos := ps, after := af, guard := gd } a w K Q := by
  have e : a.tmps[src]?.getD undef = .bool x := by rw [← Array.getD_eq_getD_getElem?]; exact h
  unfold Oper.wp
  go_simp
  exact hK

theorem sg_lss (s1 s2 d : Nat) (x y : Int) (h1 : a.tmps.getD s1 undef = .int .i64 x) (h2 : a.tmps.getD s2 undef = .int .i64 y) (hK : K (a.put (some d) (.bool (decide (x < y)))) w) : Oper.wp Try.prog { dst := some d, op := .binOp .lss 46 (.tmp s1) (.tmp s2) 46, type := ty, pos := ps, after := af, guard := gd } a w K Q := by
  have e1 : a.tmps[s1]?.getD undef = .int .i64 x := by rw [← Array.getD_eq_getD_getElem?]; exact h1
  have e2 : a.tmps[s2]?.getD undef = .int .i64 y := by rw [← Array.getD_eq_getD_getElem?]; exact h2
  unfold Oper.wp
  go_simp
  exact hK

theorem sg_pick1 (s1 s2 d : Nat) (x : Bool) (V : Value) (h1 : a.tmps.getD s1 undef = .bool x) (h2 : a.tmps.getD s2 undef = V) (hK : K (a.put (some d) (if x then .bool true else V)) w) : Oper.wp Try.prog { dst := some d, op := .pick (.tmp s1) (.const (.bool true)) (.tmp s2), type := ty, pos := ps, after := af, guard := gd } a w K Q := by
  have e1 : a.tmps[s1]?.getD undef = .bool x := by rw [← Array.getD_eq_getD_getElem?]; exact h1
  have e2 : a.tmps[s2]?.getD undef = V := by rw [← Array.getD_eq_getD_getElem?]; exact h2
  unfold Oper.wp
  cases x <;> simp only [Bool.false_eq_true, if_true, if_false] at hK <;> go_simp <;> exact hK

theorem sg_pick2 (s1 s2 d : Nat) (x : Bool) (V : Value) (h1 : a.tmps.getD s1 undef = .bool x) (h2 : a.tmps.getD s2 undef = V) (hK : K (a.put (some d) (if x then V else .bool false)) w) : Oper.wp Try.prog { dst := some d, op := .pick (.tmp s1) (.tmp s2) (.const (.bool false)), type := ty, pos := ps, after := af, guard := gd } a w K Q := by
  have e1 : a.tmps[s1]?.getD undef = .bool x := by rw [← Array.getD_eq_getD_getElem?]; exact h1
  have e2 : a.tmps[s2]?.getD undef = V := by rw [← Array.getD_eq_getD_getElem?]; exact h2
  unfold Oper.wp
  cases x <;> simp only [Bool.false_eq_true, if_true, if_false] at hK <;> go_simp <;> exact hK

theorem sg_call10 (d s0 : Nat) (v0 : Value) (h0 : a.tmps.getD s0 undef = v0)
    {R : Value → World → Prop} {at10 : Array TypeId} (hc : Calls Try.prog 10 #[v0] w fun e w' => ∃ v, e = .returned v ∧ R v w') (hK : ∀ v w', R v w' → K (a.put (some d) v) w') :
    Oper.wp Try.prog { dst := some d, op := .call { callee := .value (.func 10), args := #[.tmp s0], argTypes := at10 }, type := ty, pos := ps, after := af, guard := gd } a w K Q := by
  have e0 : a.tmps[s0]?.getD undef = v0 := by rw [← Array.getD_eq_getD_getElem?]; exact h0
  clear h0
  have HC := Lib.hid hc
  have HK := Lib.hid hK
  clear hc hK
  unfold Oper.wp
  go_simp
  refine HC.out.mono ?_
  rintro e w' ⟨v, rfl, hv⟩
  exact HK.out v w' hv
end

/-- What a guard sees in a slot. -/
def yieldOf (v : Value) : Option Bool := match v with | .bool b => some b | _ => none
theorem yielded_of {ops : Array Oper} {tmps : Array Value} {j s : Nat} (h : (ops[j]?).bind (·.dst) = some s) : yielded ops tmps j = yieldOf (tmps.getD s undef) := by
  unfold yielded
  rw [h]
  simp only [Option.bind_some]
  rw [Array.getD_eq_getD_getElem?]
  cases tmps[s]? with
  | none => rfl
  | some v => cases v <;> rfl

/-- The frame with the slots of l turned. -/
def puts (a : Act) (f : Nat → Value) (l : List Nat) : Act := l.foldl (fun acc t => acc.put (some t) (f t)) a

theorem put_get (a : Act) (s : Nat) (v : Value) (t : Nat) : (a.put (some s) v).tmps.getD t undef = if s = t ∧ s < a.tmps.size then v else a.tmps.getD t undef := by
  simp only [Act.put, Array.getD_eq_getD_getElem?, Array.getElem?_setIfInBounds]
  split
  · rename_i e
    subst e
    by_cases h : s < a.tmps.size
    · simp [h]
    · simp [h]
  · rename_i e
    rw [if_neg (fun h => e h.1)]

theorem puts_spec (f : Nat → Value) : ∀ (l : List Nat) (a : Act), (puts a f l).tmps.size = a.tmps.size ∧ (puts a f l).defers = a.defers ∧ ∀ t, (puts a f l).tmps.getD t undef = if t ∈ l ∧ t < a.tmps.size then f t else a.tmps.getD t undef
  | [], a => ⟨rfl, rfl, fun t => by simp [puts]⟩
  | s :: l, a => by
    obtain ⟨h1, h2, h3⟩ := puts_spec f l (a.put (some s) (f s))
    refine ⟨by rw [show puts a f (s :: l) = puts (a.put (some s) (f s)) f l from rfl, h1]; simp [Act.put], by rw [show puts a f (s :: l) = puts (a.put (some s) (f s)) f l from rfl, h2]; rfl, fun t => ?_⟩
    rw [show puts a f (s :: l) = puts (a.put (some s) (f s)) f l from rfl, h3, put_get, show (a.put (some s) (f s)).tmps.size = a.tmps.size by simp [Act.put]]
    by_cases hl : t ∈ l ∧ t < a.tmps.size
    · rw [if_pos hl, if_pos ⟨List.mem_cons_of_mem _ hl.1, hl.2⟩]
    · rw [if_neg hl]
      by_cases hs : s = t ∧ s < a.tmps.size
      · rw [if_pos hs, if_pos ⟨by rw [hs.1]; exact List.mem_cons_self, by rw [← hs.1]; exact hs.2⟩, hs.1]
      · rw [if_neg hs, if_neg (fun h => by
          rcases List.mem_cons.1 h.1 with e | e
          · exact hs ⟨e.symm, by rw [← e]; exact h.2⟩
          · exact hl ⟨e, h.2⟩)]

theorem act_ext {a b : Act} (h1 : a.tmps.size = b.tmps.size) (h2 : a.defers = b.defers) (h3 : ∀ t, a.tmps.getD t undef = b.tmps.getD t undef) : a = b := by
  obtain ⟨ta, da⟩ := a
  obtain ⟨tb, db⟩ := b
  simp only at h1 h2 h3
  subst h2
  congr 1
  apply Array.ext h1
  intro i hi hj
  have := h3 i
  simpa [Array.getD_eq_getD_getElem?, hi, hj] using this

structure Src15 where
  q : Nat
  b : Nat
  x0 : Int
  x1 : Bool
  x2 : ByteArray
  x3 : Int
  x4 : Int
  x5 : Int
  seen : Bool
  y : Int
  ans : Bool

def Src15.op (D : Src15) : Value := .agg #[.int .i64 D.x0, .bool D.x1, .string D.x2, .int .i64 D.x3, .int .i64 D.x4, .int .i64 D.x5]

def slot15 (i : Nat) : Nat := 72 + i
def deps15 (i : Nat) : List Nat :=
  match i with
  | 0 => []
  | 1 => [0]
  | 2 => [1]
  | 3 => [2]
  | 4 => [3, 2]
  | 5 => [4, 2]
  | 6 => [5, 2]
  | 7 => [6, 2]
  | 8 => [7, 2]
  | 9 => [8]
  | 10 => [9, 8]
  | 11 => [8]
  | 12 => [11, 8]
  | 13 => [12, 8]
  | 14 => [13, 8]
  | 15 => [10, 14, 8]
  | 16 => [8, 15, 2]
  | 17 => [2, 16]
  | _ => []

def Val15 (D : Src15) (i : Nat) (_w : World) (v : Value) : Prop :=
  match i with
  | 0 => v = D.op
  | 1 => v = .bool D.ans
  | 2 => v = .bool D.ans
  | 3 => v = if D.ans then .pointer (some ⟨D.b, 0, none⟩) else undef
  | 4 => v = if D.ans then .pointer (some ⟨D.b, 0, none⟩) else undef
  | 5 => v = if D.ans then .pointer (some ⟨D.b, 1, none⟩) else undef
  | 6 => v = if D.ans then .bool D.seen else undef
  | 7 => v = if D.ans then .bool (!D.seen) else undef
  | 8 => v = if D.ans then .bool (!D.seen) else undef
  | 9 => v = if D.ans && D.seen then .pointer (some ⟨D.q, 5, none⟩) else undef
  | 10 => v = if D.ans && D.seen then .int .i64 D.x5 else undef
  | 11 => v = if D.ans && D.seen then .pointer (some ⟨D.b, 0, none⟩) else undef
  | 12 => v = if D.ans && D.seen then .pointer (some ⟨D.b, 0, none⟩) else undef
  | 13 => v = if D.ans && D.seen then .pointer (some ⟨D.b, 2, none⟩) else undef
  | 14 => v = if D.ans && D.seen then .int .i64 D.y else undef
  | 15 => v = if D.ans && D.seen then .bool (decide (D.x5 < D.y)) else undef
  | 16 => v = if D.ans then .bool (!D.seen || decide (D.x5 < D.y)) else undef
  | 17 => v = .bool (D.ans && (!D.seen || decide (D.x5 < D.y)))
  | _ => True

def ops15 : Array (Option Tmp × Op × Option (Nat × Bool)) := #[
  (some 72, .load 48 (.tmp 7), none),
  (some 73, .call { callee := .value (.func 10), args := #[.tmp 72], argTypes := #[48] }, none),
  (some 74, .move (.tmp 73), none),
  (some 75, .move (.tmp 8), some (2, true)),
  (some 76, .nilCheck (.tmp 75), some (2, true)),
  (some 77, .fieldAddr 53 (.tmp 76) 1, some (2, true)),
  (some 78, .load 4 (.tmp 77), some (2, true)),
  (some 79, .unOp .not 4 (.tmp 78), some (2, true)),
  (some 80, .move (.tmp 79), some (2, true)),
  (some 81, .fieldAddr 48 (.tmp 7) 5, some (8, false)),
  (some 82, .load 46 (.tmp 81), some (8, false)),
  (some 83, .move (.tmp 8), some (8, false)),
  (some 84, .nilCheck (.tmp 83), some (8, false)),
  (some 85, .fieldAddr 53 (.tmp 84) 2, some (8, false)),
  (some 86, .load 46 (.tmp 85), some (8, false)),
  (some 87, .binOp .lss 46 (.tmp 82) (.tmp 86) 46, some (8, false)),
  (some 88, .pick (.tmp 80) (.const (.bool true)) (.tmp 87), some (2, true)),
  (some 89, .pick (.tmp 74) (.tmp 88) (.const (.bool false)), none),
  (some 71, .assign (.tmp 89), none)]

structure Ready15 (D : Src15) (a : Act) (w : World) : Prop where
  size : a.tmps.size = 177
  h7 : a.tmps.getD 7 undef = .pointer (some ⟨D.q, 0, none⟩)
  h8 : a.tmps.getD 8 undef = .pointer (some ⟨D.b, 0, none⟩)
  c0 : w.cell? ⟨D.q, 0, none⟩ = some (.int .i64 D.x0)
  c1 : w.cell? ⟨D.q, 1, none⟩ = some (.bool D.x1)
  c2 : w.cell? ⟨D.q, 2, none⟩ = some (.string D.x2)
  c3 : w.cell? ⟨D.q, 3, none⟩ = some (.int .i64 D.x3)
  c4 : w.cell? ⟨D.q, 4, none⟩ = some (.int .i64 D.x4)
  c5 : w.cell? ⟨D.q, 5, none⟩ = some (.int .i64 D.x5)
  s1 : w.cell? ⟨D.b, 1, none⟩ = some (.bool D.seen)
  s2 : w.cell? ⟨D.b, 2, none⟩ = some (.int .i64 D.y)
  ans : (D.x5 != -1) = D.ans

theorem below_cell {w w' : World} (h : Below w.heap.size w w') {b o : Nat} {v : Value} (hc : w.cell? ⟨b, o, none⟩ = some v) : w'.cell? ⟨b, o, none⟩ = some v :=
  (Below.cell h (p := ⟨b, o, none⟩) (by simpa using World.block_lt_of_cell? w _ hc)).trans hc

set_option maxHeartbeats 2000000 in
set_option maxRecDepth 100000 in
theorem region15 {ops : Array Oper} {Q : Exit → Act → World → Prop} {id : Nat} {a0 : Act} {w : World} (D : Src15) (hops : ops.map (fun o => (o.dst, o.op, o.guard)) = ops15) (hback : behindB ops = true) (hdeps : depsB ops 18 deps15 = true) (hall : allB ops 18 = true)
    (hm : Try.prog.follows .mixedOrders = true) (R : Ready15 D a0 w.drew)
    (hend : ∀ (f : Nat → Value) (W : World), Below w.heap.size w W → Q .normal (puts (a0.put (some 71) (.bool (D.ans && (!D.seen || decide (D.x5 < D.y))))) f [72, 73, 74, 75, 76, 77, 78, 79, 80, 81, 82, 83, 84, 85, 86, 87, 88, 89]) W) :
    (Code.region id ops true).wp Try.prog Q a0 w := by
  have hsz : ops.size = 18 + 1 := by
    have := congrArg Array.size hops
    simpa [ops15] using this
  have hop : ∀ (i : Nat) (o : Oper), ops[i]? = some o → ops15[i]? = some (o.dst, o.op, o.guard) := fun i o ho => by
    rw [← hops, Array.getElem?_map, ho]; rfl
  have hd2 : (ops[2]?).bind (·.dst) = some 74 := by
    have h1 : 2 < ops.size := by omega
    have := hop 2 ops[2] (Array.getElem?_eq_getElem h1)
    rw [Array.getElem?_eq_getElem h1]
    have e := congrArg (Option.map (·.1)) this
    simpa [ops15] using e.symm
  have hd8 : (ops[8]?).bind (·.dst) = some 80 := by
    have h1 : 8 < ops.size := by omega
    have := hop 8 ops[8] (Array.getElem?_eq_getElem h1)
    rw [Array.getElem?_eq_getElem h1]
    have e := congrArg (Option.map (·.1)) this
    simpa [ops15] using e.symm
  refine region_grow (Inv := fun _ W => Below w.heap.size w.drew W) (m := 18) (slot := slot15) (Val := Val15 D) (deps := deps15) hm (fun L _ => Below.refl _ _) hsz (fun i j _ _ h => by unfold slot15 at h; omega) (fun i hi => by rw [R.size]; unfold slot15; omega) (behind_of hback) (deps_of hdeps) (all_of hall) ?_ ?_
  · intro i o hi ho L a W hL hI hot hd
    have h := hop i o ho
    have base : ∀ t, t < 71 → a.tmps.getD t undef = a0.tmps.getD t undef := fun t h1 => hot t (fun i _ => by unfold slot15; omega)
    obtain ⟨dst, op, ty, ps, af, gd⟩ := o
    clear hot
    match i, hi, h, hd, ho with
    | 0, _, h, hd, ho =>
      cases (show some (((some 72 : Option Tmp), (.load 48 (.tmp 7) : Op), (none : Option (Nat × Bool)))) = some (dst, op, gd) from h)
      exact wpOp_plain ho rfl (sg_load48 7 72 D.q D.x0 D.x1 D.x2 D.x3 D.x4 D.x5 (below_cell hI R.c0) (below_cell hI R.c1) (below_cell hI R.c2) (below_cell hI R.c3) (below_cell hI R.c4) (below_cell hI R.c5) ((base 7 (by omega)).trans R.h7) ⟨_, rfl, by simp [Val15, Src15.op], hI, fun _ _ _ _ h => h⟩)
    | 1, _, h, hd, ho =>
      cases (show some (((some 73 : Option Tmp), (.call { callee := .value (.func 10), args := #[.tmp 72], argTypes := #[48] } : Op), (none : Option (Nat × Bool)))) = some (dst, op, gd) from h)
      have d := hd 0 (by simp [deps15])
      simp only [Val15, slot15] at d
      have C := answered_any D.x0 D.x1 D.x2 D.x3 D.x4 D.x5 W
      rw [R.ans] at C
      exact wpOp_plain ho rfl (sg_call10 73 72 _ d (R := fun v w' => v = .bool D.ans ∧ Below w.heap.size w.drew w') (C.mono fun e w' ⟨he, hw⟩ => ⟨_, he, rfl, by rw [hw]; exact Below.alloc hI hI.size _⟩) (fun v w' hr => ⟨v, rfl, by simp [Val15, hr.1], hr.2, fun _ _ _ _ h => h⟩))
    | 2, _, h, hd, ho =>
      cases (show some (((some 74 : Option Tmp), (.move (.tmp 73) : Op), (none : Option (Nat × Bool)))) = some (dst, op, gd) from h)
      have d := hd 1 (by simp [deps15])
      simp only [Val15, slot15] at d
      exact wpOp_plain ho rfl (sg_move 73 74 _ d ⟨_, rfl, by simp [Val15], hI, fun _ _ _ _ h => h⟩)
    | 3, _, h, hd, ho =>
      cases (show some (((some 75 : Option Tmp), (.move (.tmp 8) : Op), (some (2, true) : Option (Nat × Bool)))) = some (dst, op, gd) from h)
      have dg := hd 2 (by simp [deps15])
      simp only [Val15, slot15] at dg
      cases hA : D.ans with
      | false =>
        refine wpOp_skip ho ?_ ⟨undef, rfl, by simp [Val15, hA], hI, fun _ _ _ _ h => h⟩
        simp only [Region.wanted, yielded_of hd2]
        rw [show a.tmps.getD 74 undef = .bool false by rw [← hA]; exact dg]
        rfl
      | true =>
        refine wpOp_run ho ?_ ?_
        · simp only [Region.wanted, yielded_of hd2]
          rw [show a.tmps.getD 74 undef = .bool true by rw [← hA]; exact dg]
          rfl
        exact sg_move 8 75 _ ((base 8 (by omega)).trans R.h8) ⟨_, rfl, by simp [Val15, hA], hI, fun _ _ _ _ h => h⟩
    | 4, _, h, hd, ho =>
      cases (show some (((some 76 : Option Tmp), (.nilCheck (.tmp 75) : Op), (some (2, true) : Option (Nat × Bool)))) = some (dst, op, gd) from h)
      have dg := hd 2 (by simp [deps15])
      simp only [Val15, slot15] at dg
      cases hA : D.ans with
      | false =>
        refine wpOp_skip ho ?_ ⟨undef, rfl, by simp [Val15, hA], hI, fun _ _ _ _ h => h⟩
        simp only [Region.wanted, yielded_of hd2]
        rw [show a.tmps.getD 74 undef = .bool false by rw [← hA]; exact dg]
        rfl
      | true =>
        refine wpOp_run ho ?_ ?_
        · simp only [Region.wanted, yielded_of hd2]
          rw [show a.tmps.getD 74 undef = .bool true by rw [← hA]; exact dg]
          rfl
        have d := hd 3 (by simp [deps15])
        simp only [Val15, slot15, hA, if_true] at d
        exact sg_nil 75 76 D.b 0 d ⟨_, rfl, by simp [Val15, hA], hI, fun _ _ _ _ h => h⟩
    | 5, _, h, hd, ho =>
      cases (show some (((some 77 : Option Tmp), (.fieldAddr 53 (.tmp 76) 1 : Op), (some (2, true) : Option (Nat × Bool)))) = some (dst, op, gd) from h)
      have dg := hd 2 (by simp [deps15])
      simp only [Val15, slot15] at dg
      cases hA : D.ans with
      | false =>
        refine wpOp_skip ho ?_ ⟨undef, rfl, by simp [Val15, hA], hI, fun _ _ _ _ h => h⟩
        simp only [Region.wanted, yielded_of hd2]
        rw [show a.tmps.getD 74 undef = .bool false by rw [← hA]; exact dg]
        rfl
      | true =>
        refine wpOp_run ho ?_ ?_
        · simp only [Region.wanted, yielded_of hd2]
          rw [show a.tmps.getD 74 undef = .bool true by rw [← hA]; exact dg]
          rfl
        have d := hd 4 (by simp [deps15])
        simp only [Val15, slot15, hA, if_true] at d
        exact sg_field53_1 76 77 D.b d ⟨_, rfl, by simp [Val15, hA], hI, fun _ _ _ _ h => h⟩
    | 6, _, h, hd, ho =>
      cases (show some (((some 78 : Option Tmp), (.load 4 (.tmp 77) : Op), (some (2, true) : Option (Nat × Bool)))) = some (dst, op, gd) from h)
      have dg := hd 2 (by simp [deps15])
      simp only [Val15, slot15] at dg
      cases hA : D.ans with
      | false =>
        refine wpOp_skip ho ?_ ⟨undef, rfl, by simp [Val15, hA], hI, fun _ _ _ _ h => h⟩
        simp only [Region.wanted, yielded_of hd2]
        rw [show a.tmps.getD 74 undef = .bool false by rw [← hA]; exact dg]
        rfl
      | true =>
        refine wpOp_run ho ?_ ?_
        · simp only [Region.wanted, yielded_of hd2]
          rw [show a.tmps.getD 74 undef = .bool true by rw [← hA]; exact dg]
          rfl
        have d := hd 5 (by simp [deps15])
        simp only [Val15, slot15, hA, if_true] at d
        exact sg_load4 77 78 D.b 1 D.seen (below_cell hI R.s1) d ⟨_, rfl, by simp [Val15, hA], hI, fun _ _ _ _ h => h⟩
    | 7, _, h, hd, ho =>
      cases (show some (((some 79 : Option Tmp), (.unOp .not 4 (.tmp 78) : Op), (some (2, true) : Option (Nat × Bool)))) = some (dst, op, gd) from h)
      have dg := hd 2 (by simp [deps15])
      simp only [Val15, slot15] at dg
      cases hA : D.ans with
      | false =>
        refine wpOp_skip ho ?_ ⟨undef, rfl, by simp [Val15, hA], hI, fun _ _ _ _ h => h⟩
        simp only [Region.wanted, yielded_of hd2]
        rw [show a.tmps.getD 74 undef = .bool false by rw [← hA]; exact dg]
        rfl
      | true =>
        refine wpOp_run ho ?_ ?_
        · simp only [Region.wanted, yielded_of hd2]
          rw [show a.tmps.getD 74 undef = .bool true by rw [← hA]; exact dg]
          rfl
        have d := hd 6 (by simp [deps15])
        simp only [Val15, slot15, hA, if_true] at d
        exact sg_not 78 79 _ d ⟨_, rfl, by simp [Val15, hA], hI, fun _ _ _ _ h => h⟩
    | 8, _, h, hd, ho =>
      cases (show some (((some 80 : Option Tmp), (.move (.tmp 79) : Op), (some (2, true) : Option (Nat × Bool)))) = some (dst, op, gd) from h)
      have dg := hd 2 (by simp [deps15])
      simp only [Val15, slot15] at dg
      cases hA : D.ans with
      | false =>
        refine wpOp_skip ho ?_ ⟨undef, rfl, by simp [Val15, hA], hI, fun _ _ _ _ h => h⟩
        simp only [Region.wanted, yielded_of hd2]
        rw [show a.tmps.getD 74 undef = .bool false by rw [← hA]; exact dg]
        rfl
      | true =>
        refine wpOp_run ho ?_ ?_
        · simp only [Region.wanted, yielded_of hd2]
          rw [show a.tmps.getD 74 undef = .bool true by rw [← hA]; exact dg]
          rfl
        have d := hd 7 (by simp [deps15])
        simp only [Val15, slot15, hA, if_true] at d
        exact sg_move 79 80 _ d ⟨_, rfl, by simp [Val15, hA], hI, fun _ _ _ _ h => h⟩
    | 9, _, h, hd, ho =>
      cases (show some (((some 81 : Option Tmp), (.fieldAddr 48 (.tmp 7) 5 : Op), (some (8, false) : Option (Nat × Bool)))) = some (dst, op, gd) from h)
      have dg := hd 8 (by simp [deps15])
      simp only [Val15, slot15] at dg
      cases hB : (D.ans && D.seen) with
      | false =>
        refine wpOp_skip ho ?_ ⟨undef, rfl, by simp only [Val15, hB]; rfl, hI, fun _ _ _ _ h => h⟩
        simp only [Region.wanted, yielded_of hd8]
        rw [show a.tmps.getD 80 undef = if D.ans then .bool (!D.seen) else undef from dg]
        cases hA : D.ans with
        | false => rfl
        | true =>
          rw [hA, Bool.true_and] at hB
          rw [hB]
          rfl
      | true =>
        have hA : D.ans = true := by simp at hB; exact hB.1
        have hS : D.seen = true := by simp at hB; exact hB.2
        refine wpOp_run ho ?_ ?_
        · simp only [Region.wanted, yielded_of hd8]
          rw [show a.tmps.getD 80 undef = if D.ans then .bool (!D.seen) else undef from dg, hA, hS]
          rfl
        exact sg_field48_5 7 81 D.q ((base 7 (by omega)).trans R.h7) ⟨_, rfl, by simp only [Val15, hB, if_true], hI, fun _ _ _ _ h => h⟩
    | 10, _, h, hd, ho =>
      cases (show some (((some 82 : Option Tmp), (.load 46 (.tmp 81) : Op), (some (8, false) : Option (Nat × Bool)))) = some (dst, op, gd) from h)
      have dg := hd 8 (by simp [deps15])
      simp only [Val15, slot15] at dg
      cases hB : (D.ans && D.seen) with
      | false =>
        refine wpOp_skip ho ?_ ⟨undef, rfl, by simp only [Val15, hB]; rfl, hI, fun _ _ _ _ h => h⟩
        simp only [Region.wanted, yielded_of hd8]
        rw [show a.tmps.getD 80 undef = if D.ans then .bool (!D.seen) else undef from dg]
        cases hA : D.ans with
        | false => rfl
        | true =>
          rw [hA, Bool.true_and] at hB
          rw [hB]
          rfl
      | true =>
        have hA : D.ans = true := by simp at hB; exact hB.1
        have hS : D.seen = true := by simp at hB; exact hB.2
        refine wpOp_run ho ?_ ?_
        · simp only [Region.wanted, yielded_of hd8]
          rw [show a.tmps.getD 80 undef = if D.ans then .bool (!D.seen) else undef from dg, hA, hS]
          rfl
        have d := hd 9 (by simp [deps15])
        simp only [Val15, slot15, hB, if_true] at d
        exact sg_load46 81 82 D.q 5 D.x5 (below_cell hI R.c5) d ⟨_, rfl, by simp only [Val15, hB, if_true], hI, fun _ _ _ _ h => h⟩
    | 11, _, h, hd, ho =>
      cases (show some (((some 83 : Option Tmp), (.move (.tmp 8) : Op), (some (8, false) : Option (Nat × Bool)))) = some (dst, op, gd) from h)
      have dg := hd 8 (by simp [deps15])
      simp only [Val15, slot15] at dg
      cases hB : (D.ans && D.seen) with
      | false =>
        refine wpOp_skip ho ?_ ⟨undef, rfl, by simp only [Val15, hB]; rfl, hI, fun _ _ _ _ h => h⟩
        simp only [Region.wanted, yielded_of hd8]
        rw [show a.tmps.getD 80 undef = if D.ans then .bool (!D.seen) else undef from dg]
        cases hA : D.ans with
        | false => rfl
        | true =>
          rw [hA, Bool.true_and] at hB
          rw [hB]
          rfl
      | true =>
        have hA : D.ans = true := by simp at hB; exact hB.1
        have hS : D.seen = true := by simp at hB; exact hB.2
        refine wpOp_run ho ?_ ?_
        · simp only [Region.wanted, yielded_of hd8]
          rw [show a.tmps.getD 80 undef = if D.ans then .bool (!D.seen) else undef from dg, hA, hS]
          rfl
        exact sg_move 8 83 _ ((base 8 (by omega)).trans R.h8) ⟨_, rfl, by simp only [Val15, hB, if_true], hI, fun _ _ _ _ h => h⟩
    | 12, _, h, hd, ho =>
      cases (show some (((some 84 : Option Tmp), (.nilCheck (.tmp 83) : Op), (some (8, false) : Option (Nat × Bool)))) = some (dst, op, gd) from h)
      have dg := hd 8 (by simp [deps15])
      simp only [Val15, slot15] at dg
      cases hB : (D.ans && D.seen) with
      | false =>
        refine wpOp_skip ho ?_ ⟨undef, rfl, by simp only [Val15, hB]; rfl, hI, fun _ _ _ _ h => h⟩
        simp only [Region.wanted, yielded_of hd8]
        rw [show a.tmps.getD 80 undef = if D.ans then .bool (!D.seen) else undef from dg]
        cases hA : D.ans with
        | false => rfl
        | true =>
          rw [hA, Bool.true_and] at hB
          rw [hB]
          rfl
      | true =>
        have hA : D.ans = true := by simp at hB; exact hB.1
        have hS : D.seen = true := by simp at hB; exact hB.2
        refine wpOp_run ho ?_ ?_
        · simp only [Region.wanted, yielded_of hd8]
          rw [show a.tmps.getD 80 undef = if D.ans then .bool (!D.seen) else undef from dg, hA, hS]
          rfl
        have d := hd 11 (by simp [deps15])
        simp only [Val15, slot15, hB, if_true] at d
        exact sg_nil 83 84 D.b 0 d ⟨_, rfl, by simp only [Val15, hB, if_true], hI, fun _ _ _ _ h => h⟩
    | 13, _, h, hd, ho =>
      cases (show some (((some 85 : Option Tmp), (.fieldAddr 53 (.tmp 84) 2 : Op), (some (8, false) : Option (Nat × Bool)))) = some (dst, op, gd) from h)
      have dg := hd 8 (by simp [deps15])
      simp only [Val15, slot15] at dg
      cases hB : (D.ans && D.seen) with
      | false =>
        refine wpOp_skip ho ?_ ⟨undef, rfl, by simp only [Val15, hB]; rfl, hI, fun _ _ _ _ h => h⟩
        simp only [Region.wanted, yielded_of hd8]
        rw [show a.tmps.getD 80 undef = if D.ans then .bool (!D.seen) else undef from dg]
        cases hA : D.ans with
        | false => rfl
        | true =>
          rw [hA, Bool.true_and] at hB
          rw [hB]
          rfl
      | true =>
        have hA : D.ans = true := by simp at hB; exact hB.1
        have hS : D.seen = true := by simp at hB; exact hB.2
        refine wpOp_run ho ?_ ?_
        · simp only [Region.wanted, yielded_of hd8]
          rw [show a.tmps.getD 80 undef = if D.ans then .bool (!D.seen) else undef from dg, hA, hS]
          rfl
        have d := hd 12 (by simp [deps15])
        simp only [Val15, slot15, hB, if_true] at d
        exact sg_field53_2 84 85 D.b d ⟨_, rfl, by simp only [Val15, hB, if_true], hI, fun _ _ _ _ h => h⟩
    | 14, _, h, hd, ho =>
      cases (show some (((some 86 : Option Tmp), (.load 46 (.tmp 85) : Op), (some (8, false) : Option (Nat × Bool)))) = some (dst, op, gd) from h)
      have dg := hd 8 (by simp [deps15])
      simp only [Val15, slot15] at dg
      cases hB : (D.ans && D.seen) with
      | false =>
        refine wpOp_skip ho ?_ ⟨undef, rfl, by simp only [Val15, hB]; rfl, hI, fun _ _ _ _ h => h⟩
        simp only [Region.wanted, yielded_of hd8]
        rw [show a.tmps.getD 80 undef = if D.ans then .bool (!D.seen) else undef from dg]
        cases hA : D.ans with
        | false => rfl
        | true =>
          rw [hA, Bool.true_and] at hB
          rw [hB]
          rfl
      | true =>
        have hA : D.ans = true := by simp at hB; exact hB.1
        have hS : D.seen = true := by simp at hB; exact hB.2
        refine wpOp_run ho ?_ ?_
        · simp only [Region.wanted, yielded_of hd8]
          rw [show a.tmps.getD 80 undef = if D.ans then .bool (!D.seen) else undef from dg, hA, hS]
          rfl
        have d := hd 13 (by simp [deps15])
        simp only [Val15, slot15, hB, if_true] at d
        exact sg_load46 85 86 D.b 2 D.y (below_cell hI R.s2) d ⟨_, rfl, by simp only [Val15, hB, if_true], hI, fun _ _ _ _ h => h⟩
    | 15, _, h, hd, ho =>
      cases (show some (((some 87 : Option Tmp), (.binOp .lss 46 (.tmp 82) (.tmp 86) 46 : Op), (some (8, false) : Option (Nat × Bool)))) = some (dst, op, gd) from h)
      have dg := hd 8 (by simp [deps15])
      simp only [Val15, slot15] at dg
      cases hB : (D.ans && D.seen) with
      | false =>
        refine wpOp_skip ho ?_ ⟨undef, rfl, by simp only [Val15, hB]; rfl, hI, fun _ _ _ _ h => h⟩
        simp only [Region.wanted, yielded_of hd8]
        rw [show a.tmps.getD 80 undef = if D.ans then .bool (!D.seen) else undef from dg]
        cases hA : D.ans with
        | false => rfl
        | true =>
          rw [hA, Bool.true_and] at hB
          rw [hB]
          rfl
      | true =>
        have hA : D.ans = true := by simp at hB; exact hB.1
        have hS : D.seen = true := by simp at hB; exact hB.2
        refine wpOp_run ho ?_ ?_
        · simp only [Region.wanted, yielded_of hd8]
          rw [show a.tmps.getD 80 undef = if D.ans then .bool (!D.seen) else undef from dg, hA, hS]
          rfl
        have d := hd 10 (by simp [deps15])
        simp only [Val15, slot15, hB, if_true] at d
        have d' := hd 14 (by simp [deps15])
        simp only [Val15, slot15, hB, if_true] at d'
        exact sg_lss 82 86 87 _ _ d d' ⟨_, rfl, by simp only [Val15, hB, if_true], hI, fun _ _ _ _ h => h⟩
    | 16, _, h, hd, ho =>
      cases (show some (((some 88 : Option Tmp), (.pick (.tmp 80) (.const (.bool true)) (.tmp 87) : Op), (some (2, true) : Option (Nat × Bool)))) = some (dst, op, gd) from h)
      have dg := hd 2 (by simp [deps15])
      simp only [Val15, slot15] at dg
      cases hA : D.ans with
      | false =>
        refine wpOp_skip ho ?_ ⟨undef, rfl, by simp [Val15, hA], hI, fun _ _ _ _ h => h⟩
        simp only [Region.wanted, yielded_of hd2]
        rw [show a.tmps.getD 74 undef = .bool false by rw [← hA]; exact dg]
        rfl
      | true =>
        refine wpOp_run ho ?_ ?_
        · simp only [Region.wanted, yielded_of hd2]
          rw [show a.tmps.getD 74 undef = .bool true by rw [← hA]; exact dg]
          rfl
        have d := hd 8 (by simp [deps15])
        simp only [Val15, slot15, hA, if_true] at d
        have d' := hd 15 (by simp [deps15])
        simp only [Val15, slot15, hA, Bool.true_and] at d'
        refine sg_pick1 80 87 88 _ _ d d' ⟨_, rfl, ?_, hI, fun _ _ _ _ h => h⟩
        simp only [Val15, hA, if_true]
        cases D.seen <;> simp
    | 17, _, h, hd, ho =>
      cases (show some (((some 89 : Option Tmp), (.pick (.tmp 74) (.tmp 88) (.const (.bool false)) : Op), (none : Option (Nat × Bool)))) = some (dst, op, gd) from h)
      have d := hd 2 (by simp [deps15])
      simp only [Val15, slot15] at d
      have d' := hd 16 (by simp [deps15])
      simp only [Val15, slot15] at d'
      refine wpOp_plain ho rfl (sg_pick2 74 88 89 _ _ d d' ⟨_, rfl, ?_, hI, fun _ _ _ _ h => h⟩)
      simp only [Val15]
      cases D.ans <;> simp
    | i + 18, hi, _, _, _ => exact absurd hi (by omega)
  · intro o ho L a W hI hdf hts hot hv
    have h := hop 18 o ho
    obtain ⟨dst, op, ty, ps, af, gd⟩ := o
    cases (show some (((some 71 : Option Tmp), (.assign (.tmp 89) : Op), (none : Option (Nat × Bool)))) = some (dst, op, gd) from h)
    have d1 := hv 17 (by omega)
    simp only [Val15, slot15] at d1
    refine wpOp_plain ho rfl (sg_assign 89 71 _ d1 ?_)
    have hg := puts_spec (fun t => a.tmps.getD t undef) [72, 73, 74, 75, 76, 77, 78, 79, 80, 81, 82, 83, 84, 85, 86, 87, 88, 89] (a0.put (some 71) (.bool (D.ans && (!D.seen || decide (D.x5 < D.y)))))
    have hE : a.put (some 71) (.bool (D.ans && (!D.seen || decide (D.x5 < D.y)))) = puts (a0.put (some 71) (.bool (D.ans && (!D.seen || decide (D.x5 < D.y))))) (fun t => a.tmps.getD t undef) [72, 73, 74, 75, 76, 77, 78, 79, 80, 81, 82, 83, 84, 85, 86, 87, 88, 89] := by
      refine act_ext (by rw [hg.1]; simp [Act.put, hts]) (by rw [hg.2.1]; exact hdf) (fun t => ?_)
      rw [hg.2.2, put_get, put_get, hts, R.size, show (a0.put (some 71) (.bool (D.ans && (!D.seen || decide (D.x5 < D.y))))).tmps.size = 177 by simp [Act.put, R.size]]
      by_cases h71 : 71 = t
      · subst h71
        simp
      · have n71 : ¬ (71 = t ∧ 71 < 177) := fun h => h71 h.1
        simp only [if_neg n71]
        split
        · rfl
        · rename_i hn
          refine hot t (fun i hi e => hn ?_)
          unfold slot15 at e
          subst e
          refine ⟨?_, by omega⟩
          simp only [List.mem_cons, List.not_mem_nil, or_false]
          omega
    rw [hE]
    exact hend _ W ⟨hI.os, hI.tape, hI.output, hI.size, hI.block⟩
end Go.Proofs.Qxb6616342a
