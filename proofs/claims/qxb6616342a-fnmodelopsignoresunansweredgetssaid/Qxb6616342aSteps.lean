/-
  The single operations of the region that appends an operation to the history, each at a frame that is a letter.
-/
import Derived.Test.Qxb6616342aReach
import Derived.Test.Qxb6616342aRegion
import Derived.Laws.AppendOwn
import Derived.OwnWalk
namespace Go.Proofs.Qxb6616342a
open Go.RowKit

section
variable {Q : Exit → Act → World → Prop} {K : Act → World → Prop} {a : Act} {w : World} {ty : TypeId} {ps : String} {af : Array Edge}

theorem st_move (src d : Nat) (V : Value) (h : a.tmps.getD src undef = V) (hK : K (a.put (some d) V) w) : Oper.wp Try.prog { dst := some d, op := .move (.tmp src), type := ty, pos := ps, after := af, guard := none } a w K Q := by
  have e : a.eval (.tmp src) = V := h
  unfold Oper.wp
  simp only [execOp, e]
  exact hK

theorem st_nil (src d b o : Nat) (h : a.tmps.getD src undef = .pointer (some ⟨b, o, none⟩)) (hK : K (a.put (some d) (.pointer (some ⟨b, o, none⟩))) w) : Oper.wp Try.prog { dst := some d, op := .nilCheck (.tmp src), type := ty, pos := ps, after := af, guard := none } a w K Q := by
  have e : a.tmps[src]?.getD undef = .pointer (some ⟨b, o, none⟩) := by rw [← Array.getD_eq_getD_getElem?]; exact h
  unfold Oper.wp
  go_simp
  exact hK

theorem st_field45_0 (src d b o : Nat) (h : a.tmps.getD src undef = .pointer (some ⟨b, o, none⟩)) (hK : K (a.put (some d) (.pointer (some ⟨b, o, none⟩))) w) : Oper.wp Try.prog { dst := some d, op := .fieldAddr 45 (.tmp src) 0, type := ty, pos := ps, after := af, guard := none } a w K Q := by
  have e : a.tmps[src]?.getD undef = .pointer (some ⟨b, o, none⟩) := by rw [← Array.getD_eq_getD_getElem?]; exact h
  unfold Oper.wp
  go_simp
  exact hK

theorem st_index22 (s1 s2 d b o n c k : Nat) (hk : k < n) (h1 : a.tmps.getD s1 undef = .slice (some ⟨b, o, none⟩) n c) (h2 : a.tmps.getD s2 undef = .int .i64 (k : Int)) (hK : K (a.put (some d) (.pointer (some ⟨b, o + k, none⟩))) w) :
    Oper.wp Try.prog { dst := some d, op := .indexAddr 22 (.tmp s1) (.tmp s2), type := ty, pos := ps, after := af, guard := none } a w K Q := by
  have e1 : a.tmps[s1]?.getD undef = .slice (some ⟨b, o, none⟩) n c := by rw [← Array.getD_eq_getD_getElem?]; exact h1
  have e2 : a.tmps[s2]?.getD undef = .int .i64 (k : Int) := by rw [← Array.getD_eq_getD_getElem?]; exact h2
  unfold Oper.wp
  go_simp
  exact hK

theorem st_index23 (s1 s2 d b o n c k : Nat) (hk : k < n) (h1 : a.tmps.getD s1 undef = .slice (some ⟨b, o, none⟩) n c) (h2 : a.tmps.getD s2 undef = .int .i64 (k : Int)) (hK : K (a.put (some d) (.pointer (some ⟨b, o + k, none⟩))) w) :
    Oper.wp Try.prog { dst := some d, op := .indexAddr 23 (.tmp s1) (.tmp s2), type := ty, pos := ps, after := af, guard := none } a w K Q := by
  have e1 : a.tmps[s1]?.getD undef = .slice (some ⟨b, o, none⟩) n c := by rw [← Array.getD_eq_getD_getElem?]; exact h1
  have e2 : a.tmps[s2]?.getD undef = .int .i64 (k : Int) := by rw [← Array.getD_eq_getD_getElem?]; exact h2
  unfold Oper.wp
  go_simp
  exact hK

theorem st_index24 (s1 s2 d b o n c k : Nat) (hk : k < n) (h1 : a.tmps.getD s1 undef = .slice (some ⟨b, o, none⟩) n c) (h2 : a.tmps.getD s2 undef = .int .i64 (k : Int)) (hK : K (a.put (some d) (.pointer (some ⟨b, o + k, none⟩))) w) :
    Oper.wp Try.prog { dst := some d, op := .indexAddr 24 (.tmp s1) (.tmp s2), type := ty, pos := ps, after := af, guard := none } a w K Q := by
  have e1 : a.tmps[s1]?.getD undef = .slice (some ⟨b, o, none⟩) n c := by rw [← Array.getD_eq_getD_getElem?]; exact h1
  have e2 : a.tmps[s2]?.getD undef = .int .i64 (k : Int) := by rw [← Array.getD_eq_getD_getElem?]; exact h2
  unfold Oper.wp
  go_simp
  exact hK

theorem st_index25 (s1 s2 d b o n c k : Nat) (hk : k < n) (h1 : a.tmps.getD s1 undef = .slice (some ⟨b, o, none⟩) n c) (h2 : a.tmps.getD s2 undef = .int .i64 (k : Int)) (hK : K (a.put (some d) (.pointer (some ⟨b, o + k, none⟩))) w) :
    Oper.wp Try.prog { dst := some d, op := .indexAddr 25 (.tmp s1) (.tmp s2), type := ty, pos := ps, after := af, guard := none } a w K Q := by
  have e1 : a.tmps[s1]?.getD undef = .slice (some ⟨b, o, none⟩) n c := by rw [← Array.getD_eq_getD_getElem?]; exact h1
  have e2 : a.tmps[s2]?.getD undef = .int .i64 (k : Int) := by rw [← Array.getD_eq_getD_getElem?]; exact h2
  unfold Oper.wp
  go_simp
  exact hK

theorem st_load3 (src d b o : Nat) (x : Int) (hc : w.cell? ⟨b, o, none⟩ = some (.int .i64 x)) (h : a.tmps.getD src undef = .pointer (some ⟨b, o, none⟩)) (hK : K (a.put (some d) (.int .i64 x)) w) :
    Oper.wp Try.prog { dst := some d, op := .load 3 (.tmp src), type := ty, pos := ps, after := af, guard := none } a w K Q := by
  have e : a.tmps[src]?.getD undef = .pointer (some ⟨b, o, none⟩) := by rw [← Array.getD_eq_getD_getElem?]; exact h
  unfold Oper.wp
  go_simp
  exact hK

theorem st_load2 (src d b o : Nat) (x : Int) (hc : w.cell? ⟨b, o, none⟩ = some (.int .i64 x)) (h : a.tmps.getD src undef = .pointer (some ⟨b, o, none⟩)) (hK : K (a.put (some d) (.int .i64 x)) w) :
    Oper.wp Try.prog { dst := some d, op := .load 2 (.tmp src), type := ty, pos := ps, after := af, guard := none } a w K Q := by
  have e : a.tmps[src]?.getD undef = .pointer (some ⟨b, o, none⟩) := by rw [← Array.getD_eq_getD_getElem?]; exact h
  unfold Oper.wp
  go_simp
  exact hK

theorem st_load4 (src d b o : Nat) (x : Bool) (hc : w.cell? ⟨b, o, none⟩ = some (.bool x)) (h : a.tmps.getD src undef = .pointer (some ⟨b, o, none⟩)) (hK : K (a.put (some d) (.bool x)) w) :
    Oper.wp Try.prog { dst := some d, op := .load 4 (.tmp src), type := ty, pos := ps, after := af, guard := none } a w K Q := by
  have e : a.tmps[src]?.getD undef = .pointer (some ⟨b, o, none⟩) := by rw [← Array.getD_eq_getD_getElem?]; exact h
  unfold Oper.wp
  go_simp
  exact hK

theorem st_load9 (src d b o : Nat) (x : ByteArray) (hc : w.cell? ⟨b, o, none⟩ = some (.string x)) (h : a.tmps.getD src undef = .pointer (some ⟨b, o, none⟩)) (hK : K (a.put (some d) (.string x)) w) :
    Oper.wp Try.prog { dst := some d, op := .load 9 (.tmp src), type := ty, pos := ps, after := af, guard := none } a w K Q := by
  have e : a.tmps[src]?.getD undef = .pointer (some ⟨b, o, none⟩) := by rw [← Array.getD_eq_getD_getElem?]; exact h
  unfold Oper.wp
  go_simp
  exact hK

theorem st_load42 (src d b o : Nat) (x : Option Addr) (y z : Nat) (hc : w.cell? ⟨b, o, none⟩ = some (.slice x y z)) (h : a.tmps.getD src undef = .pointer (some ⟨b, o, none⟩)) (hK : K (a.put (some d) (.slice x y z)) w) :
    Oper.wp Try.prog { dst := some d, op := .load 42 (.tmp src), type := ty, pos := ps, after := af, guard := none } a w K Q := by
  have e : a.tmps[src]?.getD undef = .pointer (some ⟨b, o, none⟩) := by rw [← Array.getD_eq_getD_getElem?]; exact h
  unfold Oper.wp
  go_simp
  exact hK

theorem st_build48 (d s0 s1 s2 s3 s4 s5 : Nat) (x0 : Int) (x1 : Bool) (x2 : ByteArray) (x3 x4 x5 : Int) (h0 : a.tmps.getD s0 undef = .int .i64 x0) (h1 : a.tmps.getD s1 undef = .bool x1) (h2 : a.tmps.getD s2 undef = .string x2) (h3 : a.tmps.getD s3 undef = .int .i64 x3) (h4 : a.tmps.getD s4 undef = .int .i64 x4) (h5 : a.tmps.getD s5 undef = .int .i64 x5)
    (hK : K (a.put (some d) (.agg #[.int .i64 x0, .bool x1, .string x2, .int .i64 x3, .int .i64 x4, .int .i64 x5])) w) :
    Oper.wp Try.prog { dst := some d, op := .build 48 #[(0, .tmp s0), (1, .tmp s1), (2, .tmp s2), (3, .tmp s3), (4, .tmp s4), (5, .tmp s5)], type := ty, pos := ps, after := af, guard := none } a w K Q := by
  have e0 : a.tmps[s0]?.getD undef = .int .i64 x0 := by rw [← Array.getD_eq_getD_getElem?]; exact h0
  have e1 : a.tmps[s1]?.getD undef = .bool x1 := by rw [← Array.getD_eq_getD_getElem?]; exact h1
  have e2 : a.tmps[s2]?.getD undef = .string x2 := by rw [← Array.getD_eq_getD_getElem?]; exact h2
  have e3 : a.tmps[s3]?.getD undef = .int .i64 x3 := by rw [← Array.getD_eq_getD_getElem?]; exact h3
  have e4 : a.tmps[s4]?.getD undef = .int .i64 x4 := by rw [← Array.getD_eq_getD_getElem?]; exact h4
  have e5 : a.tmps[s5]?.getD undef = .int .i64 x5 := by rw [← Array.getD_eq_getD_getElem?]; exact h5
  unfold Oper.wp
  go_simp
  exact hK

theorem st_slice42 (d s0 : Nat) (x0 : Int) (x1 : Bool) (x2 : ByteArray) (x3 x4 x5 : Int) (h0 : a.tmps.getD s0 undef = .agg #[.int .i64 x0, .bool x1, .string x2, .int .i64 x3, .int .i64 x4, .int .i64 x5])
    (hK : K (a.put (some d) (.slice (some ⟨w.heap.size, 0, none⟩) 1 1)) (w.alloc (.cells #[.int .i64 x0, .bool x1, .string x2, .int .i64 x3, .int .i64 x4, .int .i64 x5] 48))) :
    Oper.wp Try.prog { dst := some d, op := .buildSlice 42 1 #[(0, .tmp s0)], type := ty, pos := ps, after := af, guard := none } a w K Q := by
  have e0 : a.tmps[s0]?.getD undef = .agg #[.int .i64 x0, .bool x1, .string x2, .int .i64 x3, .int .i64 x4, .int .i64 x5] := by rw [← Array.getD_eq_getD_getElem?]; exact h0
  unfold Oper.wp
  go_simp
  exact hK

theorem st_store42 (s1 s2 g : Nat) (u : Value) (x : Option Addr) (y z : Nat) (h1 : a.tmps.getD s1 undef = .pointer (some ⟨g, 0, none⟩)) (h2 : a.tmps.getD s2 undef = .slice x y z) (hc : w.cell? ⟨g, 0, none⟩ = some u) (hf : w.frozen? ⟨g, 0, none⟩ = false)
    (hK : K a (w.setCell ⟨g, 0, none⟩ (.slice x y z))) :
    Oper.wp Try.prog { dst := none, op := .store 42 (.tmp s1) (.tmp s2), type := ty, pos := ps, after := af, guard := none } a w K Q := by
  have e1 : a.tmps[s1]?.getD undef = .pointer (some ⟨g, 0, none⟩) := by rw [← Array.getD_eq_getD_getElem?]; exact h1
  have e2 : a.tmps[s2]?.getD undef = .slice x y z := by rw [← Array.getD_eq_getD_getElem?]; exact h2
  unfold Oper.wp
  go_simp
  exact hK
end
end Go.Proofs.Qxb6616342a
