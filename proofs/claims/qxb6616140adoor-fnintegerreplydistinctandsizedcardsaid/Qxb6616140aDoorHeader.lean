/-
  '(*Buffer).header' and '(*Buffer).Integer' on a buffer whose slice is nil: what lies in the buffer behind the call, and what else of memory has turned (nothing but the buffer's own cell and new blocks).
-/
import Derived.Test.Qxb6616140aDoorShelf
import Derived.Test.Qxb6616140aDoorPlain
import Derived.Lib.AppendIntMem
import Derived.Lib.Hide
import Derived.WalkKit
import Derived.WalkSpells
import Derived.BigCall
namespace Go.Proofs.Qxb6616140aDoor
open Go.RowKit Go.Shelf

theorem infoByte : (Tryd.prog.info? 5).map (fun i => (i.zero, i.size, i.bytes)) = some (some (.int .u8 0), 1, 1) := by kernel_rfl

/-- What 'header' leaves: the buffer's cell holds a slice that owns the reply's bytes among blocks from B on; every other block below B is as it was. -/
def Left1 (N B p : Nat) (xs : List UInt8) (w w' : World) : Prop :=
  ∃ v', w'.cell? ⟨p, 0, none⟩ = some v' ∧ w'.frozen? ⟨p, 0, none⟩ = false ∧ w'.ownsRow B 5 1 v' xs.length (Lib.byteCells xs) ∧ Below N w w' ∧ (∀ j, j < B → j ≠ p → w'.heap[j]? = w.heap[j]?)

/-- A slice that owns something is no nil. -/
theorem shape {w : World} {B n : Nat} {v : Value} {xs : List Value} (h : w.ownsRow B 5 1 v n xs) (hn : 0 < n) : ∃ g cap, v = .slice (some ⟨g, 0, none⟩) n cap := by
  rcases h.2 with ⟨_, h⟩ | ⟨g, cap, _, h, _⟩
  · omega
  · exact ⟨g, cap, h⟩

/-- The state between two statements of 'header': the buffer's cell holds v, which owns xs. -/
structure Mid (N B p : Nat) (w w' : World) : Prop where
  nx : Below N w w'
  rest : ∀ j, j < B → j ≠ p → w'.heap[j]? = w.heap[j]?
  size : B ≤ w'.heap.size

theorem Mid.refl {N B p : Nat} {w : World} (hB : B ≤ w.heap.size) : Mid N B p w w := ⟨Below.refl _ _, fun _ _ _ => rfl, hB⟩
theorem Mid.alloc {N B p : Nat} {w w' : World} (h : Mid N B p w w') (hN : N ≤ B) (o : Obj) : Mid N B p w (w'.alloc o) :=
  ⟨h.nx.alloc (by have := h.size; omega) _, fun j hj hne => (Below.heap_alloc _ _ _ (by have := h.size; omega)).trans (h.rest j hj hne), by have := h.size; simp; omega⟩
theorem Mid.below {N B p : Nat} {w w' w2 : World} (h : Mid N B p w w') (hN : N ≤ B) (hb : Below B w' w2) : Mid N B p w w2 :=
  ⟨h.nx.trans (hb.mono hN), fun j hj hne => (hb.block j hj).trans (h.rest j hj hne), by have := h.size; have := hb.size; omega⟩
theorem Mid.store {N B p : Nat} {w w' : World} (h : Mid N B p w w') (hN : N ≤ p) (v : Value) : Mid N B p w (w'.setCell ⟨p, 0, none⟩ v) :=
  ⟨h.nx.setCell hN v, fun j hj hne => (Below.heap_setCell _ _ _ _ hne).trans (h.rest j hj hne), by have := h.size; simp [World.setCell]; omega⟩

set_option maxHeartbeats 1000000 in
set_option maxRecDepth 100000 in
theorem header_any (N p B : Nat) (n : Int) (w : World) (h0 : -9223372036854775808 ≤ n) (h1 : n ≤ 9223372036854775807) (hN : N ≤ p) (hp : p < B) (hB : B ≤ w.heap.size)
    (hc : w.cell? ⟨p, 0, none⟩ = some (.slice none 0 0)) (hf : w.frozen? ⟨p, 0, none⟩ = false)
    (hT : Lib.TabBelow Tryd.prog N w powName .u64 Lib.pow10Tab) :
    Calls Tryd.prog 31 #[.pointer (some ⟨p, 0, none⟩), .int .u8 58, .int .i64 n] w fun e w' => e = .returned (.tuple #[]) ∧ Left1 N B p (reply n) w w' := by
  obtain ⟨i0, hi, hz0, hz1, hz2⟩ := info_parts infoByte
  have hl := Lib.itoa_length_le n h0 h1
  have hNB : N ≤ B := by omega
  go_enter Tryd.func31, Tryd.ntmps31
  go_wp2_with (at_builtin; refine wpList_append_own _ rfl (.tmp 10) (.tmp 12) 24 rfl B 5 i0 (.int .u8 0) 1 1 Tryd.underlying24 hi hz0 hz1 hz2 rfl (by decide) _ _ _ rfl (World.ownsRow_nil _ _ _ _) ⟨w.heap.size, 0, none⟩ 1 1 [Value.int .u8 58] rfl rfl (by intro j u' hj; match j, hj with | 0, hj => simp at hj; subst hj; simp [Addr.add]) (by intro u' hu'; simp at hu'; subst hu'; rfl) (by unfold maxLen; omega) (by omega) (by simp; omega) ?_)
  intro v1 w1 hown1 hgrow1 _
  have hb1 : Below B w w1 := ((Below.refl _ _).alloc hB _).grown hgrow1 (by simp; omega) (fun k h => by cases h)
  have m1 : Mid N B p w w1 := (Mid.refl hB).below hNB hb1
  obtain ⟨g1, cap1, hv1⟩ := shape hown1 (by omega)
  rw [hv1] at hown1
  rw [hv1]
  have c1 := (hb1.cell (p := ⟨p, 0, none⟩) hp).trans hc
  have f1 := (hb1.frozen (p := ⟨p, 0, none⟩) hp).trans hf
  clear hv1 hgrow1
  have hown1s := ownsRow_setCell_below hown1 (a := ⟨p, 0, none⟩) hp (.slice (some ⟨g1, 0, none⟩) 1 cap1)
  have m2 := m1.store hN (.slice (some ⟨g1, 0, none⟩) 1 cap1)
  go_wp2_with (go_at_call 41; refine (Tryd.strconv_AppendInt_10 B 1 n h0 h1 _ _ _ hown1s m2.size (by omega) ?_).mono ?_)
  · intro w' hb; exact hT _ (m2.nx.trans (hb.mono hNB))
  rintro e w3 ⟨v3, rfl, hown3, hnx3, -⟩
  have m3 := m2.below hNB hnx3
  obtain ⟨g3, cap3, hv3⟩ := shape hown3 (by omega)
  rw [hv3] at hown3
  rw [hv3]
  have c2 : (w1.setCell ⟨p, 0, none⟩ (.slice (some ⟨g1, 0, none⟩) 1 cap1)).cell? ⟨p, 0, none⟩ = some (.slice (some ⟨g1, 0, none⟩) 1 cap1) := World.cell?_setCell_same _ _ _ c1
  have f2 : (w1.setCell ⟨p, 0, none⟩ (.slice (some ⟨g1, 0, none⟩) 1 cap1)).frozen? ⟨p, 0, none⟩ = false := by rw [World.frozen?_setCell]; exact f1
  have c3 := (hnx3.cell (p := ⟨p, 0, none⟩) hp).trans c2
  have f3 := (hnx3.frozen (p := ⟨p, 0, none⟩) hp).trans f2
  clear hv3 c2 f2 c1 f1 hown1 hown1s m1 m2 hnx3 hb1
  have hlen : 1 + (Lib.itoa n).length + 2 = (reply n).length := by rw [reply_len]; omega
  have HL : Hid (1 + (Lib.itoa n).length + 2 = (reply n).length) := hlen
  clear hlen
  have HX : Hid ([Value.int .u8 58] ++ Lib.byteCells (Lib.itoa n) ++ [Value.int .u8 13, Value.int .u8 10] = Lib.byteCells (reply n)) := by unfold reply; simp only [Hid, Lib.byteCells, List.map_append, List.map_cons, List.map_nil, List.cons_append, List.nil_append]; rfl
  generalize hL : 1 + (Lib.itoa n).length = L at hown3 HL ⊢
  have hL2 : L ≤ 22 := by omega
  clear hL
  generalize [Value.int .u8 58] ++ Lib.byteCells (Lib.itoa n) = X at hown3 HX
  have hown3s := ownsRow_setCell_below hown3 (a := ⟨p, 0, none⟩) hp (.slice (some ⟨g3, 0, none⟩) L cap3)
  have m4 := m3.store hN (.slice (some ⟨g3, 0, none⟩) L cap3)
  have e2 : ∀ j u', [Value.int .u8 13, Value.int .u8 10][j]? = some u' → ((w3.setCell ⟨p, 0, none⟩ (.slice (some ⟨g3, 0, none⟩) L cap3)).alloc (.cells #[.int .u8 13, .int .u8 10] 5)).cell? ((⟨w3.heap.size, 0, none⟩ : Addr).add j) = some u' := by
    intro j u' hj
    match j, hj with
    | 0, hj => rw [← hj]; exact World.cell?_alloc_at _ _ _ _ (by simp)
    | 1, hj => rw [← hj]; exact World.cell?_alloc_at _ _ _ _ (by simp)
    | j + 2, hj => simp at hj
  go_wp2_with (at_builtin; refine wpList_append_own _ rfl (.tmp 29) (.tmp 30) 24 rfl B 5 i0 (.int .u8 0) 1 1 Tryd.underlying24 hi hz0 hz1 hz2 rfl (by decide) _ _ _ rfl (hown3s.alloc _) ⟨w3.heap.size, 0, none⟩ 2 2 [Value.int .u8 13, Value.int .u8 10] rfl rfl ?_ ?_ ?_ ?_ ?_ ?_)
  · exact e2
  · intro u' hu'; simp at hu'; rcases hu' with rfl | rfl <;> rfl
  · unfold maxLen; omega
  · omega
  · have := m4.size; simp only [World.size_alloc]; omega
  intro v5 w5 hown5 hgrow5 _
  have m5 : Mid N B p w w5 := (m4.alloc hNB _).below hNB ((Below.refl _ _).grown hgrow5 (by have := m4.size; simp only [World.size_alloc]; omega) (fun k h => (hown3.lt k h).1))
  have hb5 : Below B (w3.setCell ⟨p, 0, none⟩ (.slice (some ⟨g3, 0, none⟩) L cap3)) w5 := ((Below.refl _ _).alloc m4.size _).grown hgrow5 (by have := m4.size; simp only [World.size_alloc]; omega) (fun k h => (hown3.lt k h).1)
  obtain ⟨g5, cap5, hv5⟩ := shape hown5 (by omega)
  rw [hv5] at hown5
  rw [hv5]
  have c5 := (hb5.cell (p := ⟨p, 0, none⟩) hp).trans (World.cell?_setCell_same _ _ _ c3)
  have f5 := (hb5.frozen (p := ⟨p, 0, none⟩) hp).trans ((World.frozen?_setCell ..).trans f3)
  clear hv5 hgrow5 c3 f3 e2 hb5
  go_wp2
  go_end0
  refine ⟨rfl, .slice (some ⟨g5, 0, none⟩) (L + 2) cap5, World.cell?_setCell_same _ _ _ c5, (World.frozen?_setCell ..).trans f5, ?_, (m5.store hN _).nx, (m5.store hN _).rest⟩
  have h := ownsRow_setCell_below hown5 (a := ⟨p, 0, none⟩) hp (.slice (some ⟨g5, 0, none⟩) (L + 2) cap5)
  rw [HX.out] at h
  rw [← HL.out]
  exact h

set_option maxHeartbeats 400000 in
/-- 'Integer' on a buffer that is still empty. -/
theorem integer_any (N p B : Nat) (n : Int) (w : World) (h0 : -9223372036854775808 ≤ n) (h1 : n ≤ 9223372036854775807) (hN : N ≤ p) (hp : p < B) (hB : B ≤ w.heap.size)
    (hc : w.cell? ⟨p, 0, none⟩ = some (.slice none 0 0)) (hf : w.frozen? ⟨p, 0, none⟩ = false)
    (hT : Lib.TabBelow Tryd.prog N w powName .u64 Lib.pow10Tab) :
    Calls Tryd.prog 12 #[.pointer (some ⟨p, 0, none⟩), .int .i64 n] w fun e w' => e = .returned (.tuple #[]) ∧ Left1 N B p (reply n) w w' := by
  go_enter Tryd.func12, Tryd.ntmps12
  go_wp2_with (go_at_call 31; refine (header_any N p B n _ h0 h1 hN hp hB hc hf hT).mono ?_; rintro e w' ⟨rfl, hl⟩)
  go_end0
  exact ⟨rfl, hl⟩
end Go.Proofs.Qxb6616140aDoor
