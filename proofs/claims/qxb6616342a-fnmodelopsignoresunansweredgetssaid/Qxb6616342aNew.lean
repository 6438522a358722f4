/-
  'ZZNewHistory': the history holds the operations, one behind the other.
-/
import Derived.Test.Qxb6616342aAnswered
namespace Go.Proofs.Qxb6616342a
open Go.RowKit

/-- The operations' cells, one behind the other. -/
def flat (E : Nat → List Value) (k : Nat) : List Value := (List.range k).flatMap E
theorem flat_succ (E : Nat → List Value) (k : Nat) : flat E (k + 1) = flat E k ++ E k := by
  simp [flat, List.range_succ, List.flatMap_append]

/-- The k-th operation's cells. -/
def opAt (A : Nat → Int) (B : Nat → Bool) (S : Nat → ByteArray) (V C R : Nat → Int) (k : Nat) : List Value := opCells (A k) (B k) (S k) (V k) (C k) (R k)

/-- Block p is a history: its first field a row of n operations that lies behind p. -/
structure History (w : World) (p n : Nat) (E : Nat → List Value) (v : Value) : Prop where
  cell : w.cell? ⟨p, 0, none⟩ = some v
  own : w.ownsRow (p + 1) 48 6 v n (flat E n)

theorem frame58 (f : Nat → Value) : ((List.range 58).map f).toArray = #[f 0, f 1, f 2, f 3, f 4, f 5, f 6, f 7, f 8, f 9, f 10, f 11, f 12, f 13, f 14, f 15, f 16, f 17, f 18, f 19, f 20, f 21, f 22, f 23, f 24, f 25, f 26, f 27, f 28, f 29, f 30, f 31, f 32, f 33, f 34, f 35, f 36, f 37, f 38, f 39, f 40, f 41, f 42, f 43, f 44, f 45, f 46, f 47, f 48, f 49, f 50, f 51, f 52, f 53, f 54, f 55, f 56, f 57] := by kernel_rfl

set_option maxHeartbeats 2000000 in
set_option maxRecDepth 100000 in
theorem new_any (w : World) (o0 o1 o2 o3 o4 o5 : Option Addr) (n c0 c1 c2 c3 c4 c5 : Nat) (A : Nat → Int) (B : Nat → Bool) (S : Nat → ByteArray) (V C R : Nat → Int)
    (h0 : Row w o0 n (fun k => .int .i64 (A k))) (h1 : Row w o1 n (fun k => .bool (B k))) (h2 : Row w o2 n (fun k => .string (S k))) (h3 : Row w o3 n (fun k => .int .i64 (V k))) (h4 : Row w o4 n (fun k => .int .i64 (C k))) (h5 : Row w o5 n (fun k => .int .i64 (R k)))
    (hn : n ≤ 4097) :
    Calls Try.prog 8 #[.slice o0 n c0, .slice o1 n c1, .slice o2 n c2, .slice o3 n c3, .slice o4 n c4, .slice o5 n c5] w fun e w' =>
      e = .returned (.pointer (some ⟨w.heap.size, 0, none⟩)) ∧ Below w.heap.size w w' ∧ ∃ v, History w' w.heap.size n (opAt A B S V C R) v := by
  have H0 := Lib.hid h0
  have H1 := Lib.hid h1
  have H2 := Lib.hid h2
  have H3 := Lib.hid h3
  have H4 := Lib.hid h4
  have H5 := Lib.hid h5
  clear h0 h1 h2 h3 h4 h5
  have hmx : Try.prog.follows .mixedOrders = true := by kernel_rfl
  go_enter Try.func8, Try.ntmps8
  go_wp2
  go_loopg [19] n (fun g i wr => ∃ (k : Nat) (x : Option Addr) (y z : Nat), k ≤ n ∧ g = n - k ∧ i = .int .i64 k ∧ wr.cell? ⟨w.heap.size, 0, none⟩ = some (.slice x y z) ∧ wr.frozen? ⟨w.heap.size, 0, none⟩ = false ∧ wr.ownsRow (w.heap.size + 1) 48 6 (.slice x y z) k (flat (opAt A B S V C R) k) ∧ Below w.heap.size w wr)
  case atStart => exact ⟨0, none, 0, 0, Nat.zero_le _, rfl, rfl, by simp, by simp, World.ownsRow_nil _ _ _ _, (Below.refl _ _).alloc (Nat.le_refl _) _⟩
  case round =>
    obtain ⟨k, x, y, z, hk, rfl, rfl, hc, hf, hown, hB⟩ := hrel
    by_cases hlt : k < n
    case neg =>
      obtain rfl : k = n := by omega
      have HF : Hid (∃ v, History wr w.heap.size k (opAt A B S V C R) v) := ⟨_, hc, hown⟩
      have HB := Lib.hid hB
      clear hc hf hown hB H0 H1 H2 H3 H4 H5
      go_wp2
      go_ret
      exact ⟨rfl, HB.out, HF.out⟩
    obtain ⟨b0, f0, rfl, s0, d0⟩ := H0.out.cells k hlt
    obtain ⟨b1, f1, rfl, s1, d1⟩ := H1.out.cells k hlt
    obtain ⟨b2, f2, rfl, s2, d2⟩ := H2.out.cells k hlt
    obtain ⟨b3, f3, rfl, s3, d3⟩ := H3.out.cells k hlt
    obtain ⟨b4, f4, rfl, s4, d4⟩ := H4.out.cells k hlt
    obtain ⟨b5, f5, rfl, s5, d5⟩ := H5.out.cells k hlt
    clear H0 H1 H2 H3 H4 H5
    have HA := Lib.hid (And.intro hc (And.intro hf (And.intro hown hB)))
    have D0 := Lib.hid ((hB.cell (p := ⟨b0, f0 + k, none⟩) s0).trans d0)
    have D1 := Lib.hid ((hB.cell (p := ⟨b1, f1 + k, none⟩) s1).trans d1)
    have D2 := Lib.hid ((hB.cell (p := ⟨b2, f2 + k, none⟩) s2).trans d2)
    have D3 := Lib.hid ((hB.cell (p := ⟨b3, f3 + k, none⟩) s3).trans d3)
    have D4 := Lib.hid ((hB.cell (p := ⟨b4, f4 + k, none⟩) s4).trans d4)
    have D5 := Lib.hid ((hB.cell (p := ⟨b5, f5 + k, none⟩) s5).trans d5)
    have AP : Hid (∀ b, b < w.heap.size + 1 → some b ≠ (Value.slice x y z).ownBlock) := fun b hb e => by
      have := (hown.lt b e.symm).1
      omega
    have hz : w.heap.size < wr.heap.size := by simpa using World.block_lt_of_cell? wr _ hc
    clear d0 d1 d2 d3 d4 d5 hc hf hown hB
    go_upto_region 5 with fail
    refine region8 { p := w.heap.size, k := k, n := n, b := fun j => match j with | 0 => b0 | 1 => b1 | 2 => b2 | 3 => b3 | 4 => b4 | _ => b5, f := fun j => match j with | 0 => f0 | 1 => f1 | 2 => f2 | 3 => f3 | 4 => f4 | _ => f5, c := fun j => match j with | 0 => c0 | 1 => c1 | 2 => c2 | 3 => c3 | 4 => c4 | _ => c5, x0 := A k, x1 := B k, x2 := S k, x3 := V k, x4 := C k, x5 := R k, v := .slice x y z, xs := flat (opAt A B S V C R) k, base := w.heap.size + 1 } (by kernel_rfl) (by kernel_rfl) (by kernel_rfl) (by kernel_rfl) hmx ⟨rfl, hlt, hn, ?_, rfl, rfl, D0.out, D1.out, D2.out, D3.out, D4.out, D5.out, ?_, HA.out.1, HA.out.2.1, AP.out _ (by simp), HA.out.2.2.1, by simp; omega⟩ ?_
    · intro j hj
      match j, hj with
      | 0, _ => rfl
      | 1, _ => rfl
      | 2, _ => rfl
      | 3, _ => rfl
      | 4, _ => rfl
      | 5, _ => rfl
    · intro j hj
      match j, hj with
      | 0, _ => exact AP.out _ (by simp; omega)
      | 1, _ => exact AP.out _ (by simp; omega)
      | 2, _ => exact AP.out _ (by simp; omega)
      | 3, _ => exact AP.out _ (by simp; omega)
      | 4, _ => exact AP.out _ (by simp; omega)
      | 5, _ => exact AP.out _ (by simp; omega)
    intro f x' y' z' W hlo hhi hown' hgr
    rw [frame58]
    dsimp only
    have e0 := hlo 0 (by omega)
    have e1 := hlo 1 (by omega)
    have e2 := hlo 2 (by omega)
    have e3 := hlo 3 (by omega)
    have e4 := hlo 4 (by omega)
    have e5 := hlo 5 (by omega)
    have e6 := hlo 6 (by omega)
    have e7 := hlo 7 (by omega)
    have e8 := hlo 8 (by omega)
    have e9 := hlo 9 (by omega)
    have e10 := hlo 10 (by omega)
    have e11 := hlo 11 (by omega)
    have e12 := hlo 12 (by omega)
    have e13 := hlo 13 (by omega)
    have e14 := hlo 14 (by omega)
    have e15 := hlo 15 (by omega)
    have e16 := hlo 16 (by omega)
    have e17 := hlo 17 (by omega)
    have e18 := hlo 18 (by omega)
    have e19 := hlo 19 (by omega)
    have e20 := hlo 20 (by omega)
    have e21 := hlo 21 (by omega)
    have e56 := hhi 56 (by omega)
    have e57 := hhi 57 (by omega)
    simp at e0 e1 e2 e3 e4 e5 e6 e7 e8 e9 e10 e11 e12 e13 e14 e15 e16 e17 e18 e19 e20 e21 e56 e57
    rw [e0, e1, e2, e3, e4, e5, e6, e7, e8, e9, e10, e11, e12, e13, e14, e15, e16, e17, e18, e19, e20, e21, e56, e57]
    clear e0 e1 e2 e3 e4 e5 e6 e7 e8 e9 e10 e11 e12 e13 e14 e15 e16 e17 e18 e19 e20 e21 e56 e57 hlo hhi
    dsimp only at hown' hgr
    have hB' : Below w.heap.size w W := HA.out.2.2.2.grown hgr (by omega) (fun b e => by
      rcases Nat.lt_or_ge b (w.heap.size + 1) with h | h
      · exact absurd e.symm (AP.out b h)
      · omega)
    have hcW := hgr.cell HA.out.1 (AP.out _ (by simp))
    have hfW := frozen_grown hgr HA.out.1 HA.out.2.1 (AP.out _ (by simp))
    have hlt' : (W.heap.size) > w.heap.size := by have := hgr.size; omega
    have hne : w.heap.size ≠ (Value.slice x' y' z').ownBlock.getD 0 ∨ (Value.slice x' y' z').ownBlock = none := by
      cases e : (Value.slice x' y' z').ownBlock with
      | none => exact Or.inr rfl
      | some g =>
        have := (hown'.lt g e).1
        exact Or.inl (by simp; omega)
    have hne' : (Value.slice x' y' z').ownBlock = none ∨ (Value.slice x' y' z').ownBlock ≠ some w.heap.size := by
      rcases hne with h | h
      · cases e : (Value.slice x' y' z').ownBlock with
        | none => exact Or.inl rfl
        | some g =>
          rw [e] at h
          exact Or.inr (fun h' => h (by cases h'; rfl))
      · exact Or.inl h
    have hset : W.grownBy (W.setCell ⟨w.heap.size, 0, none⟩ (.slice x' y' z')) (some w.heap.size) := ⟨rfl, rfl, rfl, by simp, fun i _ hi => heap_setCell_other W ⟨w.heap.size, 0, none⟩ i _ (fun e => hi (by simp [e]))⟩
    have FIN : Hid ((W.setCell ⟨w.heap.size, 0, none⟩ (.slice x' y' z')).cell? ⟨w.heap.size, 0, none⟩ = some (.slice x' y' z') ∧ (W.setCell ⟨w.heap.size, 0, none⟩ (.slice x' y' z')).frozen? ⟨w.heap.size, 0, none⟩ = false ∧ (W.setCell ⟨w.heap.size, 0, none⟩ (.slice x' y' z')).ownsRow (w.heap.size + 1) 48 6 (.slice x' y' z') (k + 1) (flat (opAt A B S V C R) (k + 1)) ∧ Below w.heap.size w (W.setCell ⟨w.heap.size, 0, none⟩ (.slice x' y' z'))) := by
      refine ⟨World.cell?_setCell_same _ _ _ (by rw [hcW]), (World.frozen?_setCell _ _ _ _).trans hfW, ?_, hB'.setCell (Nat.le_refl _) _⟩
      rw [flat_succ]
      exact hown'.kept hset hne'
    generalize hWW : W.setCell ⟨w.heap.size, 0, none⟩ (.slice x' y' z') = WW at FIN ⊢
    clear hWW hset hne hne' hlt' hfW hcW hB' hgr hown' W D0 D1 D2 D3 D4 D5 HA AP
    simp only [Exit.inBlock, Exit.then]
    go_wp2
    go_roundg (n - (k + 1))
    case measure => omega
    case rel => exact ⟨k + 1, x', y', z', by omega, rfl, by go_num, FIN.out.1, FIN.out.2.1, FIN.out.2.2.1, FIN.out.2.2.2⟩
end Go.Proofs.Qxb6616342a
