/-
  'key', 'entry', 'at', 'front', 'ZZfront': the entry that a list hands out, as a function of the five numbers that lie at its head.
-/
import Derived.Test.Qxb6616828aProg
import Derived.Test.Qxb6616828aPlain
import Derived.WalkSpells
namespace Go.Proofs.Qxb6616828a
open Go.RowKit

theorem ret_int {k : IntKind} {a b : Int} (h : a = b) : Ending.returned (.int k a) = .returned (.int k b) := by rw [h]

set_option maxHeartbeats 400000 in
theorem zzkey_any (hi lo : Int) (w : World) (h0 : 0 ≤ hi) (h1 : hi ≤ 4294967295) (l0 : 0 ≤ lo) (l1 : lo ≤ 4294967295) :
    Calls Try.prog 10 #[.int .u32 hi, .int .u32 lo] w fun e w' => e = .returned (.int .u64 (keyOf hi lo)) ∧ w' = w := by
  go_enter Try.func10, Try.ntmps10
  go_wp2
  go_ret
  exact ⟨ret_int (or_key hi lo h0 h1 l0 l1), rfl⟩

set_option maxHeartbeats 400000 in
theorem key_any (a b c hi lo : Int) (w : World) (h0 : 0 ≤ hi) (h1 : hi ≤ 4294967295) (l0 : 0 ≤ lo) (l1 : lo ≤ 4294967295) :
    Calls Try.prog 17 #[.agg #[.int .u32 a, .int .u32 b, .int .u32 c, .int .u32 hi, .int .u32 lo]] w fun e w' => e = .returned (.int .u64 (keyOf hi lo)) ∧ w' = w.alloc (.cells #[.int .u32 a, .int .u32 b, .int .u32 c, .int .u32 hi, .int .u32 lo] 45) := by
  go_enter Try.func17, Try.ntmps17
  go_wp2
  go_ret
  exact ⟨ret_int (or_key hi lo h0 h1 l0 l1), rfl⟩

/-- The entry as a value: position, attempts, due. -/
def entryOf (a b c hi lo : Int) : Value := .agg #[.int .u32 a, .int .u32 b, .int .u32 c, .int .u16 (keyOf hi lo % 65536), .int .i64 (dueOf (keyOf hi lo / 65536))]

set_option maxHeartbeats 400000 in
theorem entry_any (a b c hi lo : Int) (w : World) (h0 : 0 ≤ hi) (h1 : hi ≤ 4294967295) (l0 : 0 ≤ lo) (l1 : lo ≤ 4294967295) :
    Calls Try.prog 16 #[.agg #[.int .u32 a, .int .u32 b, .int .u32 c, .int .u32 hi, .int .u32 lo]] w fun e w' => e = .returned (entryOf a b c hi lo) ∧ Below w.heap.size w w' := by
  have hb := keyOf_bd h0 h1 l0 l1
  obtain ⟨K, hK⟩ : ∃ K, K = keyOf hi lo := ⟨_, rfl⟩
  have ck := fun w => key_any a b c hi lo w h0 h1 l0 l1
  rw [← hK] at hb ck
  obtain ⟨k0, k1⟩ := hb
  have CK : Hid (∀ w, Calls Try.prog 17 #[.agg #[.int .u32 a, .int .u32 b, .int .u32 c, .int .u32 hi, .int .u32 lo]] w fun e w' => e = .returned (.int .u64 K) ∧ w' = w.alloc (.cells #[.int .u32 a, .int .u32 b, .int .u32 c, .int .u32 hi, .int .u32 lo] 45)) := ck
  have HK : Hid (K = keyOf hi lo) := hK
  clear ck hK h0 h1 l0 l1
  have wk : Hid (IntKind.u16.wrap K = K % 65536) := by rw [Hid, IntKind.wrap_u16]
  by_cases hs : K / 65536 ≤ 9223372036854
  · have hd : Hid (dueOf (K / 65536) = K / 65536 * 1000000) := dueOf_small hs
    go_enter Try.func16, Try.ntmps16
    go_wp2_with (go_at_call 17; refine (CK.out _).mono ?_; rintro e w' ⟨rfl, rfl⟩)
    refine bodyPost_ret (v := .agg #[.int .u32 a, .int .u32 b, .int .u32 c, .int .u16 (IntKind.u16.wrap K), .int .i64 (K / 65536 * 1000000)]) (by simp [results, Try.results16, go_sem]) rfl ⟨?_, (((Below.refl _ _).alloc (Nat.le_refl _) _).alloc (by simp) _).alloc (by simp; omega) _⟩
    unfold entryOf
    rw [← HK.out, hd.out, wk.out]
  · have hd : Hid (dueOf (K / 65536) = 9223372036854000000) := dueOf_big hs
    go_enter Try.func16, Try.ntmps16
    go_wp2_with (go_at_call 17; refine (CK.out _).mono ?_; rintro e w' ⟨rfl, rfl⟩)
    refine bodyPost_ret (v := .agg #[.int .u32 a, .int .u32 b, .int .u32 c, .int .u16 (IntKind.u16.wrap K), .int .i64 9223372036854000000]) (by simp [results, Try.results16, go_sem]) rfl ⟨?_, (((Below.refl _ _).alloc (Nat.le_refl _) _).alloc (by simp) _).alloc (by simp; omega) _⟩
    unfold entryOf
    rw [← HK.out, hd.out, wk.out]

/-- What a list in memory must show so that 'front' hands out the entry (a, b, c, hi, lo): the struct at p, its blocks at bb, the first block at g, h the head. -/
structure HasFront (w : World) (p h : Nat) (a b c hi lo : Int) : Prop where
  ex : ∃ bb nb cb g L C : Nat, w.cell? ⟨p, 0, none⟩ = some (.slice (some ⟨bb, 0, none⟩) nb cb) ∧ w.cell? ⟨p, 1, none⟩ = some (.int .i64 (h : Int)) ∧ 1 ≤ nb ∧ nb ≤ 1048576 ∧ w.cell? ⟨bb, 0, none⟩ = some (.slice (some ⟨g, 0, none⟩) L C) ∧ h < L ∧ L ≤ 4096 ∧
    w.cell? ⟨g, h * 5, none⟩ = some (.int .u32 a) ∧ w.cell? ⟨g, h * 5 + 1, none⟩ = some (.int .u32 b) ∧ w.cell? ⟨g, h * 5 + 2, none⟩ = some (.int .u32 c) ∧ w.cell? ⟨g, h * 5 + 3, none⟩ = some (.int .u32 hi) ∧ w.cell? ⟨g, h * 5 + 4, none⟩ = some (.int .u32 lo) ∧
    p < w.heap.size ∧ bb < w.heap.size ∧ g < w.heap.size

set_option maxHeartbeats 400000 in
theorem at_any (p bb nb cb g L C h : Nat) (w : World) (c0 : w.cell? ⟨p, 0, none⟩ = some (.slice (some ⟨bb, 0, none⟩) nb cb)) (c1 : w.cell? ⟨p, 1, none⟩ = some (.int .i64 (h : Int))) (hn : 1 ≤ nb) (hn2 : nb ≤ 1048576)
    (c2 : w.cell? ⟨bb, 0, none⟩ = some (.slice (some ⟨g, 0, none⟩) L C)) (hL : h < L) (hL2 : L ≤ 4096) :
    Calls Try.prog 15 #[.pointer (some ⟨p, 0, none⟩), .int .i64 0] w fun e w' => e = .returned (.pointer (some ⟨g, h * 5, none⟩)) ∧ w' = w := by
  have q0 : (h : Int) / 4096 = 0 := by omega
  have q1 : (h : Int) % 4096 = h := by omega
  go_enter Try.func15, Try.ntmps15
  go_wp2
  go_ret
  exact ⟨rfl, rfl⟩

/-- All old cells and marks read as before. -/
theorem bcell {W w1 : World} (hb : Below W.heap.size W w1) : (∀ b o, b < W.heap.size → w1.cell? ⟨b, o, none⟩ = W.cell? ⟨b, o, none⟩) ∧ (∀ b o, b < W.heap.size → w1.frozen? ⟨b, o, none⟩ = W.frozen? ⟨b, o, none⟩) :=
  ⟨fun b o h => hb.cell (p := ⟨b, o, none⟩) h, fun b o h => hb.frozen (p := ⟨b, o, none⟩) h⟩

set_option maxHeartbeats 1000000 in
theorem front_any (p h : Nat) (a b c hi lo : Int) (w : World) (H : HasFront w p h a b c hi lo) (h0 : 0 ≤ hi) (h1 : hi ≤ 4294967295) (l0 : 0 ≤ lo) (l1 : lo ≤ 4294967295) :
    Calls Try.prog 14 #[.pointer (some ⟨p, 0, none⟩)] w fun e w' => e = .returned (entryOf a b c hi lo) ∧ Below w.heap.size w w' := by
  obtain ⟨bb, nb, cb, g, L, C, c0, c1, hn, hn2, c2, hL, hL2, d0, d1, d2, d3, d4, s0, s1, s2⟩ := H.ex
  clear H
  go_enter Try.func14, Try.ntmps14
  go_wp2_with fail
  refine (at_any p bb nb cb g L C h _ (by rw [World.cell?_alloc_past _ _ _ s0]; exact c0) (by rw [World.cell?_alloc_past _ _ _ s0]; exact c1) hn hn2 (by rw [World.cell?_alloc_past _ _ _ s1]; exact c2) hL hL2).mono ?_
  rintro e w1 ⟨rfl, hw⟩
  subst w1
  clear c0 c1 c2
  go_wp2_with fail
  refine (entry_any a b c hi lo _ h0 h1 l0 l1).mono ?_
  rintro e w2 ⟨rfl, hb⟩
  have hz : w.heap.size + 1 ≤ w2.heap.size := by have := hb.size; simpa using this
  obtain ⟨hc, hf⟩ := bcell hb
  unfold entryOf
  have k0 := hc w.heap.size 0 (by simp)
  have k1 := hc w.heap.size 1 (by simp)
  have k2 := hc w.heap.size 2 (by simp)
  have k3 := hc w.heap.size 3 (by simp)
  have k4 := hc w.heap.size 4 (by simp)
  simp at k0 k1 k2 k3 k4
  have f0 := hf w.heap.size 0 (by simp)
  have f1 := hf w.heap.size 1 (by simp)
  have f2 := hf w.heap.size 2 (by simp)
  have f3 := hf w.heap.size 3 (by simp)
  have f4 := hf w.heap.size 4 (by simp)
  simp at f0 f1 f2 f3 f4
  clear hc hf d0 d1 d2 d3 d4
  go_wp2
  refine bodyPost_ret (v := .agg #[.int .u32 a, .int .u32 b, .int .u32 c, .int .u16 (keyOf hi lo % 65536), .int .i64 (dueOf (keyOf hi lo / 65536))]) (by simp [results, Try.results14, go_sem, k0, k1, k2, k3, k4]) rfl ⟨rfl, ?_⟩
  exact (((((((Below.refl _ _).alloc (Nat.le_refl _) _).trans (hb.mono (by simp))).setCell (by simp) _).setCell (by simp) _).setCell (by simp) _).setCell (by simp) _).setCell (by simp) _

theorem HasFront.alloc {w : World} {p h : Nat} {a b c hi lo : Int} (H : HasFront w p h a b c hi lo) (o : Obj) : HasFront (w.alloc o) p h a b c hi lo := by
  obtain ⟨bb, nb, cb, g, L, C, c0, c1, hn, hn2, c2, hL, hL2, d0, d1, d2, d3, d4, s0, s1, s2⟩ := H.ex
  refine ⟨⟨bb, nb, cb, g, L, C, ?_, ?_, hn, hn2, ?_, hL, hL2, ?_, ?_, ?_, ?_, ?_, by simp; omega, by simp; omega, by simp; omega⟩⟩
  · rw [World.cell?_alloc_past _ _ _ s0]; exact c0
  · rw [World.cell?_alloc_past _ _ _ s0]; exact c1
  · rw [World.cell?_alloc_past _ _ _ s1]; exact c2
  · rw [World.cell?_alloc_past _ _ _ s2]; exact d0
  · rw [World.cell?_alloc_past _ _ _ s2]; exact d1
  · rw [World.cell?_alloc_past _ _ _ s2]; exact d2
  · rw [World.cell?_alloc_past _ _ _ s2]; exact d3
  · rw [World.cell?_alloc_past _ _ _ s2]; exact d4

set_option maxHeartbeats 1000000 in
theorem zzfront_any (p h : Nat) (a b c hi lo : Int) (w : World) (H : HasFront w p h a b c hi lo) (h0 : 0 ≤ hi) (h1 : hi ≤ 4294967295) (l0 : 0 ≤ lo) (l1 : lo ≤ 4294967295) :
    Calls Try.prog 8 #[.pointer (some ⟨p, 0, none⟩)] w fun e w' => e = .returned (entryOf a b c hi lo) ∧ Below w.heap.size w w' := by
  go_enter Try.func8, Try.ntmps8
  go_wp2_with fail
  refine (front_any p h a b c hi lo _ (H.alloc _) h0 h1 l0 l1).mono ?_
  rintro e w2 ⟨rfl, hb⟩
  have hz : w.heap.size + 1 ≤ w2.heap.size := by have := hb.size; simpa using this
  obtain ⟨hc, hf⟩ := bcell hb
  unfold entryOf
  have k0 := hc w.heap.size 0 (by simp)
  have k1 := hc w.heap.size 1 (by simp)
  have k2 := hc w.heap.size 2 (by simp)
  have k3 := hc w.heap.size 3 (by simp)
  have k4 := hc w.heap.size 4 (by simp)
  simp at k0 k1 k2 k3 k4
  have f0 := hf w.heap.size 0 (by simp)
  have f1 := hf w.heap.size 1 (by simp)
  have f2 := hf w.heap.size 2 (by simp)
  have f3 := hf w.heap.size 3 (by simp)
  have f4 := hf w.heap.size 4 (by simp)
  simp at f0 f1 f2 f3 f4
  clear hc hf
  go_wp2
  refine bodyPost_ret (v := .agg #[.int .u32 a, .int .u32 b, .int .u32 c, .int .u16 (keyOf hi lo % 65536), .int .i64 (dueOf (keyOf hi lo / 65536))]) (by simp [results, Try.results8, go_sem, k0, k1, k2, k3, k4]) rfl ⟨rfl, ?_⟩
  exact (((((((Below.refl _ _).alloc (Nat.le_refl _) _).trans (hb.mono (by simp))).setCell (by simp) _).setCell (by simp) _).setCell (by simp) _).setCell (by simp) _).setCell (by simp) _
end Go.Proofs.Qxb6616828a
