/-
  How the map 'pending' and its values stand while 'modelOps' runs.
-/
import Derived.Test.Qxb6616342aPlain
namespace Go.Proofs.Qxb6616342a
open Go.RowKit

structure Pending (B : Nat → Bool) (S : Nat → ByteArray) (V R : Nat → Int) (w0 wr : World) (k : Nat) (f : ByteArray × Int → Option Nat) (c : ByteArray × Int → Array Value) : Prop where
  fn : MapFn wr w0.heap.size f
  blk : ∀ x b, f x = some b → w0.heap.size < b ∧ wr.heap[b]? = some (.cells (c x) 53 (0, 0))
  inj : ∀ x y b, f x = some b → f y = some b → x = y
  dom : ∀ i, i < k → B i = true → R i = -1 → (f (S i, V i)).isSome = true
  below : Below w0.heap.size w0 wr

section
variable {B : Nat → Bool} {S : Nat → ByteArray} {V R : Nat → Int} {w0 wr : World} {k : Nat} {f : ByteArray × Int → Option Nat} {c : ByteArray × Int → Array Value}

theorem Pending.lt (h : Pending B S V R w0 wr k f c) : w0.heap.size < wr.heap.size := h.fn.lt

theorem Pending.alloc (h : Pending B S V R w0 wr k f c) (o : Obj) : Pending B S V R w0 (wr.alloc o) k f c :=
  ⟨h.fn.kept (heap_alloc_old wr _ h.lt), fun x b hx => ⟨(h.blk x b hx).1, (heap_alloc_old wr _ (lt_of_block (h.blk x b hx).2)).trans (h.blk x b hx).2⟩, h.inj, h.dom, h.below.alloc (Nat.le_of_lt h.lt) _⟩

theorem Pending.skip (h : Pending B S V R w0 wr k f c) (hk : ¬ (B k = true ∧ R k = -1)) : Pending B S V R w0 wr (k + 1) f c :=
  ⟨h.fn, h.blk, h.inj, fun i hi hB hR => by
    rcases Nat.lt_or_ge i k with h1 | h1
    · exact h.dom i h1 hB hR
    · obtain rfl : i = k := by omega
      exact absurd ⟨hB, hR⟩ hk, h.below⟩

theorem Pending.put {z : Array Value} (h : Pending B S V R w0 wr k f (fun _ => z)) {w' : World} (hm : MapFn w' w0.heap.size (fun y => if y = (S k, V k) then some wr.heap.size else f y)) (hg : (wr.alloc (.cells z 53)).grownBy w' (some w0.heap.size)) :
    Pending B S V R w0 w' (k + 1) (fun y => if y = (S k, V k) then some wr.heap.size else f y) (fun _ => z) := by
  have hlt := h.lt
  have old : ∀ b o, wr.heap[b]? = some o → b ≠ w0.heap.size → w'.heap[b]? = some o := fun b o hb hne =>
    (hg.block b (by simp; have := lt_of_block hb; omega) (by simpa using hne)).trans ((heap_alloc_old wr _ (lt_of_block hb)).trans hb)
  refine ⟨hm, fun x b hx => ?_, fun x y b hx hy => ?_, fun i hi hB hR => ?_, ?_⟩
  · by_cases e : x = (S k, V k)
    · rw [if_pos e] at hx
      cases hx
      exact ⟨hlt, (hg.block _ (by simp) (by simp; omega)).trans (heap_alloc_new _ _)⟩
    · rw [if_neg e] at hx
      have := h.blk x b hx
      exact ⟨this.1, old b _ this.2 (by omega)⟩
  · by_cases e : x = (S k, V k)
    · by_cases e' : y = (S k, V k)
      · rw [e, e']
      · rw [if_pos e] at hx
        rw [if_neg e'] at hy
        cases hx
        have := lt_of_block (h.blk y _ hy).2
        omega
    · by_cases e' : y = (S k, V k)
      · rw [if_pos e'] at hy
        rw [if_neg e] at hx
        cases hy
        have := lt_of_block (h.blk x _ hx).2
        omega
      · rw [if_neg e] at hx
        rw [if_neg e'] at hy
        exact h.inj x y b hx hy
  · by_cases e : (S i, V i) = (S k, V k)
    · rw [if_pos e]; rfl
    · rw [if_neg e]
      rcases Nat.lt_or_ge i k with h1 | h1
      · exact h.dom i h1 hB hR
      · obtain rfl : i = k := by omega
        exact absurd rfl e
  · exact (h.below.alloc (Nat.le_of_lt hlt) _).grown hg (by simp; omega) (fun b e => by cases e; exact Nat.le_refl _)

theorem Pending.start (w0 : World) (z : Array Value) : Pending B S V R w0 (w0.alloc (.map #[] 0)) 0 (fun _ => none) (fun _ => z) :=
  ⟨mapFn_made w0, (fun x b h => by cases h), (fun x y b h => by cases h), fun i hi => by omega, (Below.refl _ _).alloc (Nat.le_refl _) _⟩

theorem Pending.turn (h : Pending B S V R w0 wr k f c) {key : ByteArray × Int} {b : Nat} (hf : f key = some b) {w' : World} (hg : wr.grownBy w' (some b)) {c' : ByteArray × Int → Array Value} (hb : w'.heap[b]? = some (.cells (c' key) 53 (0, 0))) (hc : ∀ x, x ≠ key → c' x = c x) : Pending B S V R w0 w' k f c' := by
  have hlt := h.lt
  have hb0 := h.blk key b hf
  refine ⟨h.fn.kept (hg.block _ hlt (by simp; omega)), fun x b' hx => ?_, h.inj, h.dom, h.below.grown hg (Nat.le_of_lt hlt) (fun b' e => by cases e; omega)⟩
  by_cases e : x = key
  · subst e
    rw [hf] at hx
    cases hx
    exact ⟨hb0.1, hb⟩
  · have h1 := h.blk x b' hx
    have hne : b' ≠ b := fun e' => e (h.inj x key b (e' ▸ hx) hf)
    refine ⟨h1.1, ?_⟩
    rw [hc x e]
    exact (hg.block b' (lt_of_block h1.2) (by simpa using hne)).trans h1.2

theorem Pending.alike (h : Pending B S V R w0 wr k f c) {c' : ByteArray × Int → Array Value} (hc : ∀ x b, f x = some b → c' x = c x) : Pending B S V R w0 wr k f c' :=
  ⟨h.fn, fun x b hx => by rw [hc x b hx]; exact h.blk x b hx, h.inj, h.dom, h.below⟩

theorem Pending.drew (h : Pending B S V R w0 wr k f c) : Pending B S V R w0 wr.drew k f c := ⟨h.fn, h.blk, h.inj, h.dom, h.below.drew⟩

theorem OpsAt.below {w w' : World} {ao : Option Addr} {n : Nat} {A : Nat → Int} {B : Nat → Bool} {S : Nat → ByteArray} {V C R : Nat → Int} (h : OpsAt w ao n A B S V C R) (hb : Below w.heap.size w w') : OpsAt w' ao n A B S V C R :=
  ⟨fun k hk => by
    obtain ⟨g, e, hs, c0, c1, c2, c3, c4, c5⟩ := h.cells k hk
    exact ⟨g, e, by have := hb.size; omega, (hb.cell (p := ⟨g, _, none⟩) hs).trans c0, (hb.cell (p := ⟨g, _, none⟩) hs).trans c1, (hb.cell (p := ⟨g, _, none⟩) hs).trans c2, (hb.cell (p := ⟨g, _, none⟩) hs).trans c3, (hb.cell (p := ⟨g, _, none⟩) hs).trans c4, (hb.cell (p := ⟨g, _, none⟩) hs).trans c5⟩⟩
end
end Go.Proofs.Qxb6616342a
