/-
  A [][]uint32 argument, opened into what the walks ask.
-/
import Derived.Test.Qxb6616828aRows
import Derived.Test.Qxb6616828aGrid
import Derived.ProofKit
import Derived.OpenShut
import Derived.Deep.Matrix
namespace Go.Proofs.Qxb6616828a
open Go.ChangeShapes Go.WideShapes Go.ChangeAt Go.RowKit Go.Deep

theorem own : ownKnob Try.prog.godebug = none := by kernel_rfl
theorem laidOut : laidOutB Try.prog = true := by kernel_rfl
theorem cells35 : Try.prog.cellsOf 35 = 1 := by kernel_rfl
theorem cells26 : Try.prog.cellsOf 26 = 1 := by kernel_rfl

theorem addr_plain {w : World} {a : Addr} {r : Nat} {v : Value} (h : w.cell? (a.add r) = some v) (h0 : r = 0 ∨ ∃ u, w.cell? (a.add 0) = some u) : ∃ b off, a = ⟨b, off, none⟩ := by
  obtain ⟨b, off, spot⟩ := a
  obtain ⟨u, hu⟩ : ∃ u, w.cell? ((⟨b, off, spot⟩ : Addr).add 0) = some u := by
    rcases h0 with rfl | h0
    · exact ⟨v, h⟩
    · exact h0
  have hs : spot = none := by simpa [Addr.add] using World.cell?_spot hu
  exact ⟨b, off, by rw [hs]⟩

theorem grid_of {H : Type} {enc : TypeId × Value → H} {W : World} {base : Nat} {v : Value} {d : DataW H} {ps : List MemPlace} (hv : Value.okWide Try.prog W .any base 22 v) (h : DataW.Trod enc Try.prog W 0 (fun _ => true) true 22 v d ps) :
    ∃ ao n cap A L C Z, v = .slice ao n cap ∧ Grid W ao n A L C Z := by
  obtain ⟨a0, len, cap, rfl⟩ := okWide_slice Try.underlying22 hv
  obtain ⟨fuel, hf⟩ := h
  rcases open_int_rows Try.underlying22 Try.underlying35 Try.underlying26 cells35 cells26 hf with ⟨hcs, _⟩ | ⟨a, len', cap', A, L, C, Z, hcs, _, hl, hm, _, hr⟩
  · simp [Value.cells] at hcs
    obtain ⟨rfl, rfl, rfl⟩ := hcs
    exact ⟨none, 0, 0, fun _ => none, fun _ => 0, fun _ => 0, fun _ _ => 0, rfl, ⟨by omega, fun r hr => by omega, fun r hr => by omega, fun r hr => by omega, fun r hr => by omega, fun r hr => by omega⟩⟩
  · simp [Value.cells] at hcs
    obtain ⟨rfl, rfl, rfl⟩ := hcs
    unfold maxLen at hm
    refine ⟨some a, len, cap, A, L, C, fun r c => (Z r).getD c 0, rfl, ⟨by omega, ?_, ?_, ?_, ?_, ?_⟩⟩
    · intro r h1
      obtain ⟨_, h2, h3, _⟩ := hr r (by omega)
      unfold maxLen at h3
      omega
    · intro r h1
      obtain ⟨hc, _⟩ := hr r (by omega)
      obtain ⟨b, off, rfl⟩ := addr_plain hc (Or.inr ⟨_, (hr 0 (by omega)).1⟩)
      rw [add_plain] at hc
      exact ⟨b, off, rfl, by simpa using World.block_lt_of_cell? W _ hc, hc⟩
    · intro r h1 c h2
      obtain ⟨_, hLC, _, hZ, _, hnone, hcell⟩ := hr r (by omega)
      cases hA : A r with
      | none => have := hnone hA; omega
      | some a' =>
        obtain ⟨_, hcc⟩ := hcell a' hA
        obtain ⟨b, off, rfl⟩ := addr_plain (hcc c (by omega)) (Or.inr ⟨_, hcc 0 (by omega)⟩)
        have := hcc c (by omega)
        rw [add_plain] at this
        exact ⟨b, off, rfl, by simpa using World.block_lt_of_cell? W _ this, this⟩
    · intro r h1 c h2
      obtain ⟨_, hLC, _, hZ, hw, _, _⟩ := hr r (by omega)
      have hc : c < (Z r).length := by omega
      have := hw _ (List.getElem_mem hc)
      have e : (Z r).getD c 0 = (Z r)[c] := by simp [List.getD, hc]
      rw [e]
      have b := bounds_u32 this
      exact ⟨by omega, by omega⟩
    · intro r h1
      exact (hr r (by omega)).2.1
end Go.Proofs.Qxb6616828a
