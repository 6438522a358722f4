/-
  'ZZnewEntryList': the list that it lays in new memory; what 'front' will meet there.
-/
import Derived.Test.Qxb6616828aGrid
import Derived.BigRegion
import Derived.RegionTactic
namespace Go.Proofs.Qxb6616828a
open Go.RowKit

/-- The five numbers of each of the first j entries lie in the row. -/
def Fields (f : Nat → Value) (j : Nat) (z0 z1 z2 z3 z4 : Nat → Int) : Prop :=
  ∀ h, h < j → f (h * 5) = .int .u32 (z0 h) ∧ f (h * 5 + 1) = .int .u32 (z1 h) ∧ f (h * 5 + 2) = .int .u32 (z2 h) ∧ f (h * 5 + 3) = .int .u32 (z3 h) ∧ f (h * 5 + 4) = .int .u32 (z4 h)

/-- One block, being filled. -/
structure Inner (wr wi : World) (g Lk j : Nat) (z0 z1 z2 z3 z4 : Nat → Int) : Prop where
  below : Below g wr wi
  size : wi.heap.size = g + 1
  row : ∃ f, wi.rowIs g 45 (Lk * 5) f ∧ Fields f j z0 z1 z2 z3 z4

theorem Inner.start (wr : World) (Lk : Nat) (z0 z1 z2 z3 z4 : Nat → Int) : Inner wr (wr.alloc (.cells (madeCells #[.int .u32 0, .int .u32 0, .int .u32 0, .int .u32 0, .int .u32 0] (Lk * 5)) 45)) wr.heap.size Lk 0 z0 z1 z2 z3 z4 := by
  refine ⟨(Below.refl _ _).alloc (Nat.le_refl _) _, by simp, ?_⟩
  refine ⟨fun i => (madeCells #[.int .u32 0, .int .u32 0, .int .u32 0, .int .u32 0, .int .u32 0] (Lk * 5))[i]?.getD (.int .u32 0), ?_, fun h hh => by omega⟩
  have h := World.rowIs_alloc wr (madeCells #[.int .u32 0, .int .u32 0, .int .u32 0, .int .u32 0, .int .u32 0] (Lk * 5)) 45 (fun i => (madeCells #[.int .u32 0, .int .u32 0, .int .u32 0, .int .u32 0, .int .u32 0] (Lk * 5))[i]?.getD (.int .u32 0)) (fun i hi => by simp [hi])
  rw [size_madeCells] at h
  exact h

theorem Inner.drewN {wr wi : World} {g Lk j : Nat} {z0 z1 z2 z3 z4 : Nat → Int} (I : Inner wr wi g Lk j z0 z1 z2 z3 z4) (n : Nat) : Inner wr (wi.drewN n) g Lk j z0 z1 z2 z3 z4 :=
  ⟨I.below.trans ⟨rfl, rfl, rfl, Nat.le_refl _, fun _ _ => rfl⟩, I.size, I.row⟩

theorem Inner.step {wr wi : World} {g Lk j : Nat} {z0 z1 z2 z3 z4 : Nat → Int} (I : Inner wr wi g Lk j z0 z1 z2 z3 z4) :
    Inner wr (((((wi.setCell ⟨g, j * 5, none⟩ (.int .u32 (z0 j))).setCell ⟨g, j * 5 + 1, none⟩ (.int .u32 (z1 j))).setCell ⟨g, j * 5 + 2, none⟩ (.int .u32 (z2 j))).setCell ⟨g, j * 5 + 3, none⟩ (.int .u32 (z3 j))).setCell ⟨g, j * 5 + 4, none⟩ (.int .u32 (z4 j))) g Lk (j + 1) z0 z1 z2 z3 z4 := by
  obtain ⟨f, hr, hF⟩ := I.row
  refine ⟨((((I.below.setCell (Nat.le_refl _) _).setCell (Nat.le_refl _) _).setCell (Nat.le_refl _) _).setCell (Nat.le_refl _) _).setCell (Nat.le_refl _) _, by simp [I.size], ?_⟩
  refine ⟨_, ((((hr.set _ _).set _ _).set _ _).set _ _).set _ _, ?_⟩
  intro h hh
  rcases Nat.lt_or_ge h j with h1 | h1
  · obtain ⟨e0, e1, e2, e3, e4⟩ := hF h h1
    refine ⟨?_, ?_, ?_, ?_, ?_⟩
    · simp only [show ¬ h * 5 = j * 5 + 4 by omega, show ¬ h * 5 = j * 5 + 3 by omega, show ¬ h * 5 = j * 5 + 2 by omega, show ¬ h * 5 = j * 5 + 1 by omega, show ¬ h * 5 = j * 5 by omega, if_false]; exact e0
    · simp only [show ¬ h * 5 + 1 = j * 5 + 4 by omega, show ¬ h * 5 + 1 = j * 5 + 3 by omega, show ¬ h * 5 + 1 = j * 5 + 2 by omega, show ¬ h * 5 + 1 = j * 5 + 1 by omega, show ¬ h * 5 + 1 = j * 5 by omega, if_false]; exact e1
    · simp only [show ¬ h * 5 + 2 = j * 5 + 4 by omega, show ¬ h * 5 + 2 = j * 5 + 3 by omega, show ¬ h * 5 + 2 = j * 5 + 2 by omega, show ¬ h * 5 + 2 = j * 5 + 1 by omega, show ¬ h * 5 + 2 = j * 5 by omega, if_false]; exact e2
    · simp only [show ¬ h * 5 + 3 = j * 5 + 4 by omega, show ¬ h * 5 + 3 = j * 5 + 3 by omega, show ¬ h * 5 + 3 = j * 5 + 2 by omega, show ¬ h * 5 + 3 = j * 5 + 1 by omega, show ¬ h * 5 + 3 = j * 5 by omega, if_false]; exact e3
    · simp only [show ¬ h * 5 + 4 = j * 5 + 4 by omega, show ¬ h * 5 + 4 = j * 5 + 3 by omega, show ¬ h * 5 + 4 = j * 5 + 2 by omega, show ¬ h * 5 + 4 = j * 5 + 1 by omega, show ¬ h * 5 + 4 = j * 5 by omega, if_false]; exact e4
  · obtain rfl : h = j := by omega
    refine ⟨?_, ?_, ?_, ?_, ?_⟩
    · simp only [show ¬ h * 5 = h * 5 + 4 by omega, show ¬ h * 5 = h * 5 + 3 by omega, show ¬ h * 5 = h * 5 + 2 by omega, show ¬ h * 5 = h * 5 + 1 by omega, if_false, if_true]
    · simp only [show ¬ h * 5 + 1 = h * 5 + 4 by omega, show ¬ h * 5 + 1 = h * 5 + 3 by omega, show ¬ h * 5 + 1 = h * 5 + 2 by omega, if_false, if_true]
    · simp only [show ¬ h * 5 + 2 = h * 5 + 4 by omega, show ¬ h * 5 + 2 = h * 5 + 3 by omega, if_false, if_true]
    · simp only [show ¬ h * 5 + 3 = h * 5 + 4 by omega, if_false, if_true]
    · simp only [if_true]

/-- The list, being built: k blocks stand. -/
structure Outer (w wr : World) (n k L : Nat) (z0 z1 z2 z3 z4 : Nat → Int) : Prop where
  below : Below w.heap.size w wr
  size : wr.heap.size = w.heap.size + 1 + k
  row : ∃ f, wr.rowIs w.heap.size 43 n f ∧ (1 ≤ k → f 0 = .slice (some ⟨w.heap.size + 1, 0, none⟩) L L)
  first : 1 ≤ k → ∃ f, wr.rowIs (w.heap.size + 1) 45 (L * 5) f ∧ Fields f L z0 z1 z2 z3 z4

theorem Outer.start (w : World) (n L : Nat) (z0 z1 z2 z3 z4 : Nat → Int) : Outer w (w.alloc (.cells (madeCells #[.slice none 0 0] n) 43)) n 0 L z0 z1 z2 z3 z4 :=
  ⟨(Below.refl _ _).alloc (Nat.le_refl _) _, by simp, ⟨_, World.rowIs_made w (.slice none 0 0) n 43, fun h => by omega⟩, fun h => by omega⟩

theorem Outer.step {w wr wi : World} {n k L Lk : Nat} {z0 z1 z2 z3 z4 y0 y1 y2 y3 y4 : Nat → Int} (O : Outer w wr n k L z0 z1 z2 z3 z4) (I : Inner wr wi wr.heap.size Lk Lk y0 y1 y2 y3 y4)
    (h0 : k = 0 → Lk = L ∧ y0 = z0 ∧ y1 = z1 ∧ y2 = z2 ∧ y3 = z3 ∧ y4 = z4) :
    Outer w (wi.setCell ⟨w.heap.size, k, none⟩ (.slice (some ⟨wr.heap.size, 0, none⟩) Lk Lk)) n (k + 1) L z0 z1 z2 z3 z4 := by
  have hs := O.size
  obtain ⟨f, hr, hf⟩ := O.row
  have hri : wi.rowIs w.heap.size 43 n f := hr.of_block (I.below.block _ (by omega))
  refine ⟨(O.below.trans (I.below.mono (by omega))).setCell (Nat.le_refl _) _, by simp [I.size]; omega, ⟨_, hri.set _ _, ?_⟩, ?_⟩
  · intro _
    rcases Nat.eq_zero_or_pos k with e | e
    · subst e
      obtain ⟨e1, _⟩ := h0 rfl
      subst e1
      rw [if_pos rfl, hs]
    · rw [if_neg (by omega)]
      exact hf e
  · intro _
    rcases Nat.eq_zero_or_pos k with e | e
    · subst e
      obtain ⟨rfl, rfl, rfl, rfl, rfl, rfl⟩ := h0 rfl
      obtain ⟨fi, hri2, hFi⟩ := I.row
      rw [hs] at hri2
      exact ⟨fi, World.rowIs.setOther hri2 (by simp) _, hFi⟩
    · obtain ⟨fi, hri2, hFi⟩ := O.first e
      exact ⟨fi, World.rowIs.setOther (hri2.of_block (I.below.block _ (by omega))) (by simp) _, hFi⟩

/-- What 'front' will meet. -/
theorem Outer.front {w wo : World} {n L h : Nat} {z0 z1 z2 z3 z4 : Nat → Int} (O : Outer w wo n n L z0 z1 z2 z3 z4) (h1 : 1 ≤ n) (h2 : n ≤ 1048576) (hL : L ≤ 4096) (hh : h < L) (m : Int) :
    HasFront (wo.alloc (.cells #[.slice (some ⟨w.heap.size, 0, none⟩) n n, .int .i64 (h : Int), .int .i64 m] 47)) wo.heap.size h (z0 h) (z1 h) (z2 h) (z3 h) (z4 h) := by
  have hs := O.size
  obtain ⟨f, hr, hf⟩ := O.row
  obtain ⟨fi, hri, hFi⟩ := O.first h1
  obtain ⟨e0, e1, e2, e3, e4⟩ := hFi h hh
  have c0 := hr.cell (i := 0) (by omega)
  rw [hf h1] at c0
  refine ⟨⟨w.heap.size, n, n, w.heap.size + 1, L, L, by simp, by simp, h1, h2, ?_, hh, hL, ?_, ?_, ?_, ?_, ?_, by simp, by simp; omega, by simp; omega⟩⟩
  · rw [World.cell?_alloc_past _ _ _ (by omega)]; exact c0
  · rw [World.cell?_alloc_past _ _ _ (by omega), hri.cell (by omega), e0]
  · rw [World.cell?_alloc_past _ _ _ (by omega), hri.cell (by omega), e1]
  · rw [World.cell?_alloc_past _ _ _ (by omega), hri.cell (by omega), e2]
  · rw [World.cell?_alloc_past _ _ _ (by omega), hri.cell (by omega), e3]
  · rw [World.cell?_alloc_past _ _ _ (by omega), hri.cell (by omega), e4]
end Go.Proofs.Qxb6616828a
