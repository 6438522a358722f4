/-
  'String' of the builder in a meepoParts: it reads; it marks the bytes as shared: every cell is as it was.
-/
import Derived.Test.Qxb6616971aWrite
namespace Go.Proofs.Qxb6616971a
open Go.RowKit

/-- What 'String' leaves: every cell and every block's shape as it was; marks may turn from block N on. -/
structure Looked (N : Nat) (w w' : World) : Prop where
  below : Below N w w'
  cell : ∀ a, w'.cell? a = w.cell? a
  shape : ∀ b, w'.shape? b = w.shape? b
  size : w'.heap.size = w.heap.size

theorem Looked.refl (N : Nat) (w : World) : Looked N w w := ⟨Below.refl _ _, fun _ => rfl, fun _ => rfl, rfl⟩
theorem Looked.trans {N : Nat} {a b c : World} (h : Looked N a b) (k : Looked N b c) : Looked N a c := ⟨h.below.trans k.below, fun x => (k.cell x).trans (h.cell x), fun x => (k.shape x).trans (h.shape x), k.size.trans h.size⟩
theorem Looked.drew (N : Nat) (w : World) : Looked N w w.drew := ⟨(Below.refl _ _).drew, fun _ => rfl, fun _ => rfl, rfl⟩

theorem looked_freeze (N : Nat) (w : World) (g n : Nat) (hg : N ≤ g) : Looked N w (w.drew.freeze ⟨g, 0, none⟩ n) := by
  have hb := Lib.below_freeze (Below.drew (Below.refl N w)) (p := ⟨g, 0, none⟩) hg n
  by_cases hn : n = 0
  · unfold World.freeze
    rw [if_pos hn]
    exact Looked.drew N w
  unfold World.freeze at hb ⊢
  rw [if_neg hn] at hb ⊢
  refine ⟨hb, fun a => ?_, fun b => ?_, ?_⟩
  · unfold World.cell?
    simp only [Array.getElem?_modify]
    by_cases e : g = a.block
    · rw [if_pos e]
      show _ = (match w.heap[a.block]? with | some (.cells c _ _) => if a.spot.isSome then none else c[a.off]? | _ => none)
      have hh : w.drew.heap[a.block]? = w.heap[a.block]? := rfl
      rw [hh]
      cases w.heap[a.block]? with
      | none => rfl
      | some o => cases o <;> rfl
    · rw [if_neg e]
      rfl
  · unfold World.shape?
    simp only [Array.getElem?_modify]
    by_cases e : g = b
    · rw [if_pos e]
      have hh : w.drew.heap[b]? = w.heap[b]? := rfl
      rw [hh]
      cases w.heap[b]? with
      | none => rfl
      | some o => cases o <;> rfl
    · rw [if_neg e]
      rfl
  · simp

/-- The text l can be read at the parts' block b. -/
def Reads (w : World) (N b : Nat) (l : List UInt8) : Prop :=
  ∃ v, w.cell? ⟨b, 2, none⟩ = some v ∧ ((l = [] ∧ v = .slice none 0 0) ∨
    (l ≠ [] ∧ ∃ g cap cells, v = .slice (some ⟨g, 0, none⟩) l.length cap ∧ N ≤ g ∧ l.length ≤ cap ∧ cap ≤ maxLen ∧ w.shape? g = some (5, cells) ∧ l.length ≤ cells ∧ ∀ j x, l[j]? = some x → w.cell? ((⟨g, 0, none⟩ : Addr).add j) = some (.int .u8 x.toNat)))

theorem Reads.looked {N M : Nat} {w w' : World} {b : Nat} {l : List UInt8} (h : Reads w N b l) (k : Looked M w w') : Reads w' N b l := by
  obtain ⟨v, hc, h | ⟨h0, g, cap, cells, e, r1, r2, r3, r4, r5, r6⟩⟩ := h
  · exact ⟨v, (k.cell _).trans hc, Or.inl h⟩
  · exact ⟨v, (k.cell _).trans hc, Or.inr ⟨h0, g, cap, cells, e, r1, r2, r3, (k.shape g).trans r4, r5, fun j x hj => (k.cell _).trans (r6 j x hj)⟩⟩

theorem Text.reads {w : World} {B b : Nat} {v : Value} {l : List UInt8} {d : Int} (h : Text w B b v (Lib.byteCells l) d) : Reads w B b l := by
  obtain ⟨p, hb, _⟩ := h.blk
  refine ⟨v, (cell_parts hb).2.1, ?_⟩
  by_cases h0 : l = []
  · subst h0
    exact Or.inl ⟨rfl, h.nil rfl⟩
  · refine Or.inr ⟨h0, ?_⟩
    have hl0 : l.length ≠ 0 := by simpa using h0
    have own := h.own
    rw [Lib.byteCells_length] at own
    rcases own.2 with ⟨_, hz⟩ | ⟨g, cap, cur, hv, hbg, hg, hnc, hcm, hcs, htake⟩
    · exact absurd hz hl0
    · refine ⟨g, cap, cur.size, hv, hbg, hnc, hcm, by simp [World.shape?, hg], by omega, fun j x hj => ?_⟩
      subst hv
      exact own.cells (g := g) rfl j (.int .u8 x.toNat) (by simp [Lib.byteCells, hj])

set_option maxHeartbeats 2000000 in
set_option maxRecDepth 100000 in
theorem string_any (N b : Nat) (l : List UInt8) (w : World) (h : Reads w N b l) :
    Calls Try.prog 12 #[.pointer (some ⟨b, 1, none⟩)] w fun e w' => e = .returned (.string ⟨l.toArray⟩) ∧ Looked N w w' := by
  obtain ⟨v, hc, ⟨rfl, rfl⟩ | ⟨h0, g, cap, cells, rfl, r1, r2, r3, r4, r5, r6⟩⟩ := h
  · have hUS := fun W q => Lib.run_unsafeString_none (P := Try.prog) W 64 3 9 q
    have hSD := fun W => Lib.run_unsafeSliceData_nil (P := Try.prog) W #[32] 64 0 0
    have c1 : w.drew.cell? ⟨b, 2, none⟩ = some (.slice none 0 0) := hc
    go_enter Try.func12, Try.ntmps12
    go_wp2
    go_region
    all_goals
      go_wp2
      go_ret
      exact ⟨rfl, Looked.drew _ _⟩
  · have hl0 : l.length ≠ 0 := by simpa using h0
    have c1 : w.drew.cell? ⟨b, 2, none⟩ = some (.slice (some ⟨g, 0, none⟩) l.length cap) := hc
    have hSD : (Builtin.unsafeSliceData_ #[32] 64 #[.slice (some ⟨g, 0, none⟩) l.length cap]).run Try.prog w.drew = .ok (.pointer (some ⟨g, 0, none⟩)) w.drew := Lib.run_unsafeSliceData_row _ _ _ _ _ _ (by omega)
    have hUS : (Builtin.unsafeString_ #[64, 3] 9 #[.pointer (some ⟨g, 0, none⟩), .int .i64 l.length]).run Try.prog w.drew = .ok (.string ⟨l.toArray⟩) (w.drew.freeze ⟨g, 0, none⟩ l.length) :=
      Lib.run_unsafeString_row w.drew 64 3 9 5 Try.underlying64 cellsByte g cells r4 l h0 r5 (by unfold maxLen at r3; omega) r6
    clear r4 r5 r6
    go_enter Try.func12, Try.ntmps12
    go_wp2
    go_region
    all_goals
      go_wp2
      go_ret
      exact ⟨rfl, looked_freeze N w g l.length r1⟩
end Go.Proofs.Qxb6616971a
