/-
  The single operations of the region that builds the second list, each at a frame that is a letter.
-/
import Derived.Test.Qxb6616828aRegion
import Derived.Test.Qxb6616828aOrderCore
import Derived.Lib.Hide
namespace Go.Proofs.Qxb6616828a
open Go.RowKit

section
variable {Q : Exit → Act → World → Prop} {K : Act → World → Prop} {a : Act} {w : World} {ty : TypeId} {ps : String} {af : Array Edge}

theorem st_move (src d : Nat) (V : Value) (h : a.tmps.getD src undef = V) (hK : K (a.put (some d) V) w) : Oper.wp Try.prog { dst := some d, op := .move (.tmp src), type := ty, pos := ps, after := af, guard := none } a w K Q := by
  have e : a.eval (.tmp src) = V := h
  unfold Oper.wp
  simp only [execOp, e]
  exact hK

theorem st_index (src d b o n c : Nat) (hn : 1 ≤ n) (hn2 : n ≤ 1048576) (h : a.tmps.getD src undef = .slice (some ⟨b, o, none⟩) n c) (hK : K (a.put (some d) (.pointer (some ⟨b, o, none⟩))) w) :
    Oper.wp Try.prog { dst := some d, op := .indexAddr 22 (.tmp src) (.const (.int .i64 0)), type := ty, pos := ps, after := af, guard := none } a w K Q := by
  have e : a.eval (.tmp src) = .slice (some ⟨b, o, none⟩) n c := h
  have hn' : (0 : Int) < n := by omega
  unfold Oper.wp
  go_simp
  rw [if_pos (by omega)]
  exact hK

theorem st_load (src d b o : Nat) (V : Value) (ao : Option Addr) (l c : Nat) (hV : V = .slice ao l c) (hc : w.cell? ⟨b, o, none⟩ = some V) (h : a.tmps.getD src undef = .pointer (some ⟨b, o, none⟩)) (hK : K (a.put (some d) V) w) :
    Oper.wp Try.prog { dst := some d, op := .load 35 (.tmp src), type := ty, pos := ps, after := af, guard := none } a w K Q := by
  subst hV
  have e : a.eval (.tmp src) = .pointer (some ⟨b, o, none⟩) := h
  unfold Oper.wp
  go_simp
  exact hK

theorem st_slice (s1 s2 d b o l c h : Nat) (hl : h + 1 ≤ l) (hlc : l ≤ c) (h1 : a.tmps.getD s1 undef = .slice (some ⟨b, o, none⟩) l c) (h2 : a.tmps.getD s2 undef = .int .i64 ((h : Int) + 1)) (hK : K (a.put (some d) (.slice (some ⟨b, o, none⟩) (h + 1) c)) w) :
    Oper.wp Try.prog { dst := some d, op := .slice 35 (.tmp s1) none (some (.tmp s2)) none, type := ty, pos := ps, after := af, guard := none } a w K Q := by
  have e1 : a.eval (.tmp s1) = .slice (some ⟨b, o, none⟩) l c := h1
  have e2 : a.eval (.tmp s2) = .int .i64 ((h : Int) + 1) := h2
  unfold Oper.wp
  go_simp
  rw [if_pos ⟨by omega, by omega⟩]
  exact hK

theorem st_build (s d : Nat) (ao : Option Addr) (l c : Nat) (h1 : a.tmps.getD s undef = .slice ao l c) (hK : K (a.put (some d) (.slice (some ⟨w.heap.size, 0, none⟩) 1 1)) (w.alloc (.cells #[.slice ao l c] 35))) :
    Oper.wp Try.prog { dst := some d, op := .buildSlice 22 1 #[(0, .tmp s)], type := ty, pos := ps, after := af, guard := none } a w K Q := by
  have e1 : a.tmps[s]?.getD undef = .slice ao l c := by rw [← Array.getD_eq_getD_getElem?]; exact h1
  unfold Oper.wp
  go_simp
  exact hK

theorem st_alloc (d : Nat) (hK : K (a.put (some d) (.pointer (some ⟨w.heap.size, 0, none⟩))) (w.alloc (.cells #[.int .u32 0, .int .u32 0, .int .u32 0, .int .u16 0, .int .i64 0] 31))) :
    Oper.wp Try.prog { dst := some d, op := .alloc 31, type := ty, pos := ps, after := af, guard := none } a w K Q := by
  unfold Oper.wp
  go_simp
  exact hK

theorem st_call9 (d s0 s1 s2 s3 s4 s5 : Nat) (v0 v1 v2 v3 v4 v5 : Value) (h0 : a.tmps.getD s0 undef = v0) (h1 : a.tmps.getD s1 undef = v1) (h2 : a.tmps.getD s2 undef = v2) (h3 : a.tmps.getD s3 undef = v3) (h4 : a.tmps.getD s4 undef = v4) (h5 : a.tmps.getD s5 undef = v5)
    {R : Value → World → Prop} {at9 : Array TypeId} (hc : Calls Try.prog 9 #[v0, v1, v2, v3, v4, v5, .int .i64 1] w fun e w' => ∃ v, e = .returned v ∧ R v w') (hK : ∀ v w', R v w' → K (a.put (some d) v) w') :
    Oper.wp Try.prog { dst := some d, op := .call { callee := .value (.func 9), args := #[.tmp s0, .tmp s1, .tmp s2, .tmp s3, .tmp s4, .tmp s5, .const (.int .i64 1)], argTypes := at9 }, type := ty, pos := ps, after := af, guard := none } a w K Q := by
  have e0 : a.tmps[s0]?.getD undef = v0 := by rw [← Array.getD_eq_getD_getElem?]; exact h0
  have e1 : a.tmps[s1]?.getD undef = v1 := by rw [← Array.getD_eq_getD_getElem?]; exact h1
  have e2 : a.tmps[s2]?.getD undef = v2 := by rw [← Array.getD_eq_getD_getElem?]; exact h2
  have e3 : a.tmps[s3]?.getD undef = v3 := by rw [← Array.getD_eq_getD_getElem?]; exact h3
  have e4 : a.tmps[s4]?.getD undef = v4 := by rw [← Array.getD_eq_getD_getElem?]; exact h4
  have e5 : a.tmps[s5]?.getD undef = v5 := by rw [← Array.getD_eq_getD_getElem?]; exact h5
  clear h0 h1 h2 h3 h4 h5
  have HC := Lib.hid hc
  have HK := Lib.hid hK
  clear hc hK
  unfold Oper.wp
  go_simp
  refine HC.out.mono ?_
  rintro e w' ⟨v, rfl, hv⟩
  exact HK.out v w' hv

theorem st_call8 (d s0 : Nat) (v0 : Value) (h0 : a.tmps.getD s0 undef = v0)
    {R : Value → World → Prop} {at8 : Array TypeId} (hc : Calls Try.prog 8 #[v0] w fun e w' => ∃ v, e = .returned v ∧ R v w') (hK : ∀ v w', R v w' → K (a.put (some d) v) w') :
    Oper.wp Try.prog { dst := some d, op := .call { callee := .value (.func 8), args := #[.tmp s0], argTypes := at8 }, type := ty, pos := ps, after := af, guard := none } a w K Q := by
  have e0 : a.tmps[s0]?.getD undef = v0 := by rw [← Array.getD_eq_getD_getElem?]; exact h0
  clear h0
  have HC := Lib.hid hc
  have HK := Lib.hid hK
  clear hc hK
  unfold Oper.wp
  go_simp
  refine HC.out.mono ?_
  rintro e w' ⟨v, rfl, hv⟩
  exact HK.out v w' hv

theorem st_store (s1 s2 g : Nat) (x0 x1 x2 x3 x4 : Int) (h1 : a.tmps.getD s1 undef = .pointer (some ⟨g, 0, none⟩)) (h2 : a.tmps.getD s2 undef = .agg #[.int .u32 x0, .int .u32 x1, .int .u32 x2, .int .u16 x3, .int .i64 x4])
    (hg : w.heap[g]? = some (.cells #[.int .u32 0, .int .u32 0, .int .u32 0, .int .u16 0, .int .i64 0] 31 (0, 0)))
    (hK : K a (((((w.setCell ⟨g, 0, none⟩ (.int .u32 x0)).setCell ⟨g, 1, none⟩ (.int .u32 x1)).setCell ⟨g, 2, none⟩ (.int .u32 x2)).setCell ⟨g, 3, none⟩ (.int .u16 x3)).setCell ⟨g, 4, none⟩ (.int .i64 x4))) :
    Oper.wp Try.prog { dst := none, op := .store 31 (.tmp s1) (.tmp s2), type := ty, pos := ps, after := af, guard := none } a w K Q := by
  have e1 : a.tmps[s1]?.getD undef = .pointer (some ⟨g, 0, none⟩) := by rw [← Array.getD_eq_getD_getElem?]; exact h1
  have e2 : a.tmps[s2]?.getD undef = .agg #[.int .u32 x0, .int .u32 x1, .int .u32 x2, .int .u16 x3, .int .i64 x4] := by rw [← Array.getD_eq_getD_getElem?]; exact h2
  have c0 : w.cell? ⟨g, 0, none⟩ = some (.int .u32 0) := by simp [World.cell?, hg]
  have c1 : w.cell? ⟨g, 1, none⟩ = some (.int .u32 0) := by simp [World.cell?, hg]
  have c2 : w.cell? ⟨g, 2, none⟩ = some (.int .u32 0) := by simp [World.cell?, hg]
  have c3 : w.cell? ⟨g, 3, none⟩ = some (.int .u16 0) := by simp [World.cell?, hg]
  have c4 : w.cell? ⟨g, 4, none⟩ = some (.int .i64 0) := by simp [World.cell?, hg]
  have f0 : w.frozen? ⟨g, 0, none⟩ = false := by simp [World.frozen?, hg]
  have f1 : w.frozen? ⟨g, 1, none⟩ = false := by simp [World.frozen?, hg]
  have f2 : w.frozen? ⟨g, 2, none⟩ = false := by simp [World.frozen?, hg]
  have f3 : w.frozen? ⟨g, 3, none⟩ = false := by simp [World.frozen?, hg]
  have f4 : w.frozen? ⟨g, 4, none⟩ = false := by simp [World.frozen?, hg]
  clear hg h1 h2
  unfold Oper.wp
  go_simp
  exact hK
end
end Go.Proofs.Qxb6616828a
