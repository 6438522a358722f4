/-
  The law's six copies, the last first.
-/
import Derived.Test.Qxb6616342aSum
import Derived.Laws.CopyOwn
namespace Go.Proofs.Qxb6616342a
open Go.RowKit

/-- The walk stands at the builtin copy: a law is tried there alone. -/
theorem here_copy {P : Program} {ops : Array Oper} {Q : Exit → Act → World → Prop} {rest : List Oper} {a : Act} {w : World} {dst : Option Tmp} {args : Array Operand} {ats : Array TypeId} {ty : TypeId} {pos : String} {after : Array Edge} {g : Option (Nat × Bool)}
    (h : wpList P ops Q (⟨dst, .call ⟨.builtin .copy, args, ats⟩, ty, pos, after, g⟩ :: rest) a w) :
    wpList P ops Q (⟨dst, .call ⟨.builtin .copy, args, ats⟩, ty, pos, after, g⟩ :: rest) a w := h

theorem range_one {n : Nat} {X : Nat → Value} (h : ∀ k, (X k).oneCell' = true) : ∀ v ∈ (List.range n).map X, v.oneCell' = true := by
  intro v hv
  obtain ⟨k, _, rfl⟩ := List.mem_map.1 hv
  exact h k

theorem range_src {w w' : World} {n : Nat} {X : Nat → Value} {ad : Addr} (h : Row w (some ad) n X) (hb : Below w.heap.size w w') (j : Nat) (v : Value) (hv : ((List.range n).map X)[j]? = some v) : w'.cell? (ad.add j) = some v := by
  have hj : j < n := by simpa using (List.getElem?_eq_some_iff.1 hv).1
  obtain ⟨b, off, e, hs, hc⟩ := h.cells j hj
  cases e
  rw [Addr.add_lit]
  refine below_cell hb ?_
  rw [hc]
  simpa [hj] using hv

set_option maxHeartbeats 8000000 in
set_option maxRecDepth 1000000 in
theorem tail8 (a : Act) (w w0 : World) (o0 o1 o2 o3 o4 o5 : Option Addr) (n0 n1 n2 n3 n4 n5 c0 c1 c2 c3 c4 c5 : Nat) (A : Nat → Int) (B : Nat → Bool) (S : Nat → ByteArray) (V C R : Nat → Int) (at_ gc : Int) (g : ByteArray) (gl : Int) (hs : a.tmps.size = 373) (hd : a.defers = [])
    (s0 : a.tmps.getD 0 undef = .slice o0 n0 c0)
    (s1 : a.tmps.getD 1 undef = .slice o1 n1 c1)
    (s2 : a.tmps.getD 2 undef = .slice o2 n2 c2)
    (s3 : a.tmps.getD 3 undef = .slice o3 n3 c3)
    (s4 : a.tmps.getD 4 undef = .slice o4 n4 c4)
    (s5 : a.tmps.getD 5 undef = .slice o5 n5 c5)
    (s6 : a.tmps.getD 6 undef = .int .i64 at_) (s7 : a.tmps.getD 7 undef = .int .i64 gc) (s8 : a.tmps.getD 8 undef = .string g) (s9 : a.tmps.getD 9 undef = .int .i64 gl)
    (h0 : Row w o0 n0 (fun k => .int .i64 (A k)))
    (h1 : Row w o1 n1 (fun k => .bool (B k)))
    (h2 : Row w o2 n2 (fun k => .string (S k)))
    (h3 : Row w o3 n3 (fun k => .int .i64 (V k)))
    (h4 : Row w o4 n4 (fun k => .int .i64 (C k)))
    (h5 : Row w o5 n5 (fun k => .int .i64 (R k)))
    (m0 : n0 ≤ 4096)
    (m1 : n1 ≤ 4096)
    (m2 : n2 ≤ 4096)
    (m3 : n3 ≤ 4096)
    (m4 : n4 ≤ 4096)
    (m5 : n5 ≤ 4096)
    (hS : ∀ k, k < n2 → (S k).size ≤ 1048576) (hg : g.size ≤ 1048576) (hc : ∀ i, i < n4 → C i ≤ 9223372036854775807) (hB : Below w0.heap.size w0 w) :
    Code.wp Try.prog (tail3 Try.f3 8) (bodyPost Try.prog Try.f3 (fun e w' => e = .returned (.bool true) ∧ Below w0.heap.size w0 w')) a w := by
  rw [act_lit a hs hd]
  rw [s0, s1, s2, s3, s4, s5, s6, s7, s8, s9]
  obtain ⟨f, hf⟩ : ∃ f : Nat → Value, ∀ t, a.tmps.getD t undef = f t := ⟨_, fun _ => rfl⟩
  simp only [hf]
  clear hf s0 s1 s2 s3 s4 s5 s6 s7 s8 s9 hs hd a
  have HT : Hid (∀ (a : Act) (w' : World) (o' : Option Addr) (c' : Nat), a.tmps.size = 373 → a.defers = [] → a.tmps.getD 0 undef = .slice o0 n0 c0 → a.tmps.getD 1 undef = .slice o1 n1 c1 → a.tmps.getD 2 undef = .slice o2 n2 c2 → a.tmps.getD 3 undef = .slice o3 n3 c3 → a.tmps.getD 4 undef = .slice o4 n4 c4 → a.tmps.getD 5 undef = .slice o' n5 c' → a.tmps.getD 6 undef = .int .i64 at_ → a.tmps.getD 7 undef = .int .i64 gc → a.tmps.getD 8 undef = .string g → a.tmps.getD 9 undef = .int .i64 gl → Row w' o' n5 (fun k => .int .i64 (R k)) → Below w.heap.size w w' → Code.wp Try.prog (tail3 Try.f3 9) (bodyPost Try.prog Try.f3 (fun e w' => e = .returned (.bool true) ∧ Below w0.heap.size w0 w')) a w') := fun a w' o' c' hs hd s0 s1 s2 s3 s4 s5 s6 s7 s8 s9 hr hb => tail9 a w' w0 o0 o1 o2 o3 o4 o' n0 n1 n2 n3 n4 n5 c0 c1 c2 c3 c4 c' A B S V C R at_ gc g gl hs hd s0 s1 s2 s3 s4 s5 s6 s7 s8 s9 (h0.below hb) (h1.below hb) (h2.below hb) (h3.below hb) (h4.below hb) hr m0 m1 m2 m3 m4 m5 hS hg hc (hB.trans (hb.mono hB.size))
  have HI := Lib.hid h5
  clear h0 h1 h2 h3 h4 h5 hS hc hB
  have ne := fun (w : World) (a : Option Addr) (n c : Nat) => run_neq_slice_nil_any w 25 2 a n c 0 0 Try.underlying25
  conv => arg 2; whnf
  cases o5 with
  | none =>
    go_upto_if 134 with fail
    go_step
    go_step
    (try simp only [Exit.then])
    go_step
    refine HT.out _ _ none c5 ?_ ?_ ?_ ?_ ?_ ?_ ?_ ?_ ?_ ?_ ?_ ?_ HI.out (Below.refl _ _)
    all_goals rfl
  | some ad =>
    have hmk := make25 n5 (by omega)
    have HSR := Lib.hid (fun w' (hb : Below w.heap.size w w') => range_src HI.out hb)
    clear HI
    go_upto_region 28 with (with_reducible refine here_copy ?_; refine wpList_copy_splice rfl (.tmp 138) (.tmp 139) 25 25 rfl 2 Try.underlying25 (by kernel_rfl) _ _ _ _ _ _ rfl rfl w.heap.size 0 (List.replicate n5 (.int .i64 0)) 2 (heap_alloc_new _ _) ((List.range n5).map (fun k => .int .i64 (R k))) (by simp) (fun _ => ⟨rfl, _, rfl, HSR.out _ ((Below.refl _ _).alloc (Nat.le_refl _) _)⟩) (by simp) (range_one (fun _ => rfl)) w.heap.size w ((Below.refl _ _).alloc (Nat.le_refl _) _) (Nat.le_refl _) ?_; intro w3 hh3 hb3)
    have HR3 := Lib.hid (show Row w3 (some ⟨w.heap.size, 0, none⟩) n5 (fun k => .int .i64 (R k)) from row_of_block (by have := hh3.out; rw [splice_all (by simp)] at this; exact this) (by omega))
    have HB3 := Lib.hid hb3
    clear hh3 hb3 hmk ne HSR
    repeat (first | (refine HT.out _ _ (some ⟨w.heap.size, 0, none⟩) n5 ?_ ?_ ?_ ?_ ?_ ?_ ?_ ?_ ?_ ?_ ?_ ?_ HR3.out HB3.out) | go_step | (simp only []))
    all_goals rfl

set_option maxHeartbeats 8000000 in
set_option maxRecDepth 1000000 in
theorem tail7 (a : Act) (w w0 : World) (o0 o1 o2 o3 o4 o5 : Option Addr) (n0 n1 n2 n3 n4 n5 c0 c1 c2 c3 c4 c5 : Nat) (A : Nat → Int) (B : Nat → Bool) (S : Nat → ByteArray) (V C R : Nat → Int) (at_ gc : Int) (g : ByteArray) (gl : Int) (hs : a.tmps.size = 373) (hd : a.defers = [])
    (s0 : a.tmps.getD 0 undef = .slice o0 n0 c0)
    (s1 : a.tmps.getD 1 undef = .slice o1 n1 c1)
    (s2 : a.tmps.getD 2 undef = .slice o2 n2 c2)
    (s3 : a.tmps.getD 3 undef = .slice o3 n3 c3)
    (s4 : a.tmps.getD 4 undef = .slice o4 n4 c4)
    (s5 : a.tmps.getD 5 undef = .slice o5 n5 c5)
    (s6 : a.tmps.getD 6 undef = .int .i64 at_) (s7 : a.tmps.getD 7 undef = .int .i64 gc) (s8 : a.tmps.getD 8 undef = .string g) (s9 : a.tmps.getD 9 undef = .int .i64 gl)
    (h0 : Row w o0 n0 (fun k => .int .i64 (A k)))
    (h1 : Row w o1 n1 (fun k => .bool (B k)))
    (h2 : Row w o2 n2 (fun k => .string (S k)))
    (h3 : Row w o3 n3 (fun k => .int .i64 (V k)))
    (h4 : Row w o4 n4 (fun k => .int .i64 (C k)))
    (h5 : Row w o5 n5 (fun k => .int .i64 (R k)))
    (m0 : n0 ≤ 4096)
    (m1 : n1 ≤ 4096)
    (m2 : n2 ≤ 4096)
    (m3 : n3 ≤ 4096)
    (m4 : n4 ≤ 4096)
    (m5 : n5 ≤ 4096)
    (hS : ∀ k, k < n2 → (S k).size ≤ 1048576) (hg : g.size ≤ 1048576) (hc : ∀ i, i < n4 → C i ≤ 9223372036854775807) (hB : Below w0.heap.size w0 w) :
    Code.wp Try.prog (tail3 Try.f3 7) (bodyPost Try.prog Try.f3 (fun e w' => e = .returned (.bool true) ∧ Below w0.heap.size w0 w')) a w := by
  rw [act_lit a hs hd]
  rw [s0, s1, s2, s3, s4, s5, s6, s7, s8, s9]
  obtain ⟨f, hf⟩ : ∃ f : Nat → Value, ∀ t, a.tmps.getD t undef = f t := ⟨_, fun _ => rfl⟩
  simp only [hf]
  clear hf s0 s1 s2 s3 s4 s5 s6 s7 s8 s9 hs hd a
  have HT : Hid (∀ (a : Act) (w' : World) (o' : Option Addr) (c' : Nat), a.tmps.size = 373 → a.defers = [] → a.tmps.getD 0 undef = .slice o0 n0 c0 → a.tmps.getD 1 undef = .slice o1 n1 c1 → a.tmps.getD 2 undef = .slice o2 n2 c2 → a.tmps.getD 3 undef = .slice o3 n3 c3 → a.tmps.getD 4 undef = .slice o' n4 c' → a.tmps.getD 5 undef = .slice o5 n5 c5 → a.tmps.getD 6 undef = .int .i64 at_ → a.tmps.getD 7 undef = .int .i64 gc → a.tmps.getD 8 undef = .string g → a.tmps.getD 9 undef = .int .i64 gl → Row w' o' n4 (fun k => .int .i64 (C k)) → Below w.heap.size w w' → Code.wp Try.prog (tail3 Try.f3 8) (bodyPost Try.prog Try.f3 (fun e w' => e = .returned (.bool true) ∧ Below w0.heap.size w0 w')) a w') := fun a w' o' c' hs hd s0 s1 s2 s3 s4 s5 s6 s7 s8 s9 hr hb => tail8 a w' w0 o0 o1 o2 o3 o' o5 n0 n1 n2 n3 n4 n5 c0 c1 c2 c3 c' c5 A B S V C R at_ gc g gl hs hd s0 s1 s2 s3 s4 s5 s6 s7 s8 s9 (h0.below hb) (h1.below hb) (h2.below hb) (h3.below hb) hr (h5.below hb) m0 m1 m2 m3 m4 m5 hS hg hc (hB.trans (hb.mono hB.size))
  have HI := Lib.hid h4
  clear h0 h1 h2 h3 h4 h5 hS hc hB
  have ne := fun (w : World) (a : Option Addr) (n c : Nat) => run_neq_slice_nil_any w 25 2 a n c 0 0 Try.underlying25
  conv => arg 2; whnf
  cases o4 with
  | none =>
    go_upto_if 125 with fail
    go_step
    go_step
    (try simp only [Exit.then])
    go_step
    refine HT.out _ _ none c4 ?_ ?_ ?_ ?_ ?_ ?_ ?_ ?_ ?_ ?_ ?_ ?_ HI.out (Below.refl _ _)
    all_goals rfl
  | some ad =>
    have hmk := make25 n4 (by omega)
    have HSR := Lib.hid (fun w' (hb : Below w.heap.size w w') => range_src HI.out hb)
    clear HI
    go_upto_region 24 with (with_reducible refine here_copy ?_; refine wpList_copy_splice rfl (.tmp 129) (.tmp 130) 25 25 rfl 2 Try.underlying25 (by kernel_rfl) _ _ _ _ _ _ rfl rfl w.heap.size 0 (List.replicate n4 (.int .i64 0)) 2 (heap_alloc_new _ _) ((List.range n4).map (fun k => .int .i64 (C k))) (by simp) (fun _ => ⟨rfl, _, rfl, HSR.out _ ((Below.refl _ _).alloc (Nat.le_refl _) _)⟩) (by simp) (range_one (fun _ => rfl)) w.heap.size w ((Below.refl _ _).alloc (Nat.le_refl _) _) (Nat.le_refl _) ?_; intro w3 hh3 hb3)
    have HR3 := Lib.hid (show Row w3 (some ⟨w.heap.size, 0, none⟩) n4 (fun k => .int .i64 (C k)) from row_of_block (by have := hh3.out; rw [splice_all (by simp)] at this; exact this) (by omega))
    have HB3 := Lib.hid hb3
    clear hh3 hb3 hmk ne HSR
    repeat (first | (refine HT.out _ _ (some ⟨w.heap.size, 0, none⟩) n4 ?_ ?_ ?_ ?_ ?_ ?_ ?_ ?_ ?_ ?_ ?_ ?_ HR3.out HB3.out) | go_step | (simp only []))
    all_goals rfl

set_option maxHeartbeats 8000000 in
set_option maxRecDepth 1000000 in
theorem tail6 (a : Act) (w w0 : World) (o0 o1 o2 o3 o4 o5 : Option Addr) (n0 n1 n2 n3 n4 n5 c0 c1 c2 c3 c4 c5 : Nat) (A : Nat → Int) (B : Nat → Bool) (S : Nat → ByteArray) (V C R : Nat → Int) (at_ gc : Int) (g : ByteArray) (gl : Int) (hs : a.tmps.size = 373) (hd : a.defers = [])
    (s0 : a.tmps.getD 0 undef = .slice o0 n0 c0)
    (s1 : a.tmps.getD 1 undef = .slice o1 n1 c1)
    (s2 : a.tmps.getD 2 undef = .slice o2 n2 c2)
    (s3 : a.tmps.getD 3 undef = .slice o3 n3 c3)
    (s4 : a.tmps.getD 4 undef = .slice o4 n4 c4)
    (s5 : a.tmps.getD 5 undef = .slice o5 n5 c5)
    (s6 : a.tmps.getD 6 undef = .int .i64 at_) (s7 : a.tmps.getD 7 undef = .int .i64 gc) (s8 : a.tmps.getD 8 undef = .string g) (s9 : a.tmps.getD 9 undef = .int .i64 gl)
    (h0 : Row w o0 n0 (fun k => .int .i64 (A k)))
    (h1 : Row w o1 n1 (fun k => .bool (B k)))
    (h2 : Row w o2 n2 (fun k => .string (S k)))
    (h3 : Row w o3 n3 (fun k => .int .i64 (V k)))
    (h4 : Row w o4 n4 (fun k => .int .i64 (C k)))
    (h5 : Row w o5 n5 (fun k => .int .i64 (R k)))
    (m0 : n0 ≤ 4096)
    (m1 : n1 ≤ 4096)
    (m2 : n2 ≤ 4096)
    (m3 : n3 ≤ 4096)
    (m4 : n4 ≤ 4096)
    (m5 : n5 ≤ 4096)
    (hS : ∀ k, k < n2 → (S k).size ≤ 1048576) (hg : g.size ≤ 1048576) (hc : ∀ i, i < n4 → C i ≤ 9223372036854775807) (hB : Below w0.heap.size w0 w) :
    Code.wp Try.prog (tail3 Try.f3 6) (bodyPost Try.prog Try.f3 (fun e w' => e = .returned (.bool true) ∧ Below w0.heap.size w0 w')) a w := by
  rw [act_lit a hs hd]
  rw [s0, s1, s2, s3, s4, s5, s6, s7, s8, s9]
  obtain ⟨f, hf⟩ : ∃ f : Nat → Value, ∀ t, a.tmps.getD t undef = f t := ⟨_, fun _ => rfl⟩
  simp only [hf]
  clear hf s0 s1 s2 s3 s4 s5 s6 s7 s8 s9 hs hd a
  have HT : Hid (∀ (a : Act) (w' : World) (o' : Option Addr) (c' : Nat), a.tmps.size = 373 → a.defers = [] → a.tmps.getD 0 undef = .slice o0 n0 c0 → a.tmps.getD 1 undef = .slice o1 n1 c1 → a.tmps.getD 2 undef = .slice o2 n2 c2 → a.tmps.getD 3 undef = .slice o' n3 c' → a.tmps.getD 4 undef = .slice o4 n4 c4 → a.tmps.getD 5 undef = .slice o5 n5 c5 → a.tmps.getD 6 undef = .int .i64 at_ → a.tmps.getD 7 undef = .int .i64 gc → a.tmps.getD 8 undef = .string g → a.tmps.getD 9 undef = .int .i64 gl → Row w' o' n3 (fun k => .int .i64 (V k)) → Below w.heap.size w w' → Code.wp Try.prog (tail3 Try.f3 7) (bodyPost Try.prog Try.f3 (fun e w' => e = .returned (.bool true) ∧ Below w0.heap.size w0 w')) a w') := fun a w' o' c' hs hd s0 s1 s2 s3 s4 s5 s6 s7 s8 s9 hr hb => tail7 a w' w0 o0 o1 o2 o' o4 o5 n0 n1 n2 n3 n4 n5 c0 c1 c2 c' c4 c5 A B S V C R at_ gc g gl hs hd s0 s1 s2 s3 s4 s5 s6 s7 s8 s9 (h0.below hb) (h1.below hb) (h2.below hb) hr (h4.below hb) (h5.below hb) m0 m1 m2 m3 m4 m5 hS hg hc (hB.trans (hb.mono hB.size))
  have HI := Lib.hid h3
  clear h0 h1 h2 h3 h4 h5 hS hc hB
  have ne := fun (w : World) (a : Option Addr) (n c : Nat) => run_neq_slice_nil_any w 22 3 a n c 0 0 Try.underlying22
  conv => arg 2; whnf
  cases o3 with
  | none =>
    go_upto_if 116 with fail
    go_step
    go_step
    (try simp only [Exit.then])
    go_step
    refine HT.out _ _ none c3 ?_ ?_ ?_ ?_ ?_ ?_ ?_ ?_ ?_ ?_ ?_ ?_ HI.out (Below.refl _ _)
    all_goals rfl
  | some ad =>
    have hmk := make22 n3 (by omega)
    have HSR := Lib.hid (fun w' (hb : Below w.heap.size w w') => range_src HI.out hb)
    clear HI
    go_upto_region 20 with (with_reducible refine here_copy ?_; refine wpList_copy_splice rfl (.tmp 120) (.tmp 121) 22 22 rfl 3 Try.underlying22 (by kernel_rfl) _ _ _ _ _ _ rfl rfl w.heap.size 0 (List.replicate n3 (.int .i64 0)) 3 (heap_alloc_new _ _) ((List.range n3).map (fun k => .int .i64 (V k))) (by simp) (fun _ => ⟨rfl, _, rfl, HSR.out _ ((Below.refl _ _).alloc (Nat.le_refl _) _)⟩) (by simp) (range_one (fun _ => rfl)) w.heap.size w ((Below.refl _ _).alloc (Nat.le_refl _) _) (Nat.le_refl _) ?_; intro w3 hh3 hb3)
    have HR3 := Lib.hid (show Row w3 (some ⟨w.heap.size, 0, none⟩) n3 (fun k => .int .i64 (V k)) from row_of_block (by have := hh3.out; rw [splice_all (by simp)] at this; exact this) (by omega))
    have HB3 := Lib.hid hb3
    clear hh3 hb3 hmk ne HSR
    repeat (first | (refine HT.out _ _ (some ⟨w.heap.size, 0, none⟩) n3 ?_ ?_ ?_ ?_ ?_ ?_ ?_ ?_ ?_ ?_ ?_ ?_ HR3.out HB3.out) | go_step | (simp only []))
    all_goals rfl

set_option maxHeartbeats 8000000 in
set_option maxRecDepth 1000000 in
theorem tail5 (a : Act) (w w0 : World) (o0 o1 o2 o3 o4 o5 : Option Addr) (n0 n1 n2 n3 n4 n5 c0 c1 c2 c3 c4 c5 : Nat) (A : Nat → Int) (B : Nat → Bool) (S : Nat → ByteArray) (V C R : Nat → Int) (at_ gc : Int) (g : ByteArray) (gl : Int) (hs : a.tmps.size = 373) (hd : a.defers = [])
    (s0 : a.tmps.getD 0 undef = .slice o0 n0 c0)
    (s1 : a.tmps.getD 1 undef = .slice o1 n1 c1)
    (s2 : a.tmps.getD 2 undef = .slice o2 n2 c2)
    (s3 : a.tmps.getD 3 undef = .slice o3 n3 c3)
    (s4 : a.tmps.getD 4 undef = .slice o4 n4 c4)
    (s5 : a.tmps.getD 5 undef = .slice o5 n5 c5)
    (s6 : a.tmps.getD 6 undef = .int .i64 at_) (s7 : a.tmps.getD 7 undef = .int .i64 gc) (s8 : a.tmps.getD 8 undef = .string g) (s9 : a.tmps.getD 9 undef = .int .i64 gl)
    (h0 : Row w o0 n0 (fun k => .int .i64 (A k)))
    (h1 : Row w o1 n1 (fun k => .bool (B k)))
    (h2 : Row w o2 n2 (fun k => .string (S k)))
    (h3 : Row w o3 n3 (fun k => .int .i64 (V k)))
    (h4 : Row w o4 n4 (fun k => .int .i64 (C k)))
    (h5 : Row w o5 n5 (fun k => .int .i64 (R k)))
    (m0 : n0 ≤ 4096)
    (m1 : n1 ≤ 4096)
    (m2 : n2 ≤ 4096)
    (m3 : n3 ≤ 4096)
    (m4 : n4 ≤ 4096)
    (m5 : n5 ≤ 4096)
    (hS : ∀ k, k < n2 → (S k).size ≤ 1048576) (hg : g.size ≤ 1048576) (hc : ∀ i, i < n4 → C i ≤ 9223372036854775807) (hB : Below w0.heap.size w0 w) :
    Code.wp Try.prog (tail3 Try.f3 5) (bodyPost Try.prog Try.f3 (fun e w' => e = .returned (.bool true) ∧ Below w0.heap.size w0 w')) a w := by
  rw [act_lit a hs hd]
  rw [s0, s1, s2, s3, s4, s5, s6, s7, s8, s9]
  obtain ⟨f, hf⟩ : ∃ f : Nat → Value, ∀ t, a.tmps.getD t undef = f t := ⟨_, fun _ => rfl⟩
  simp only [hf]
  clear hf s0 s1 s2 s3 s4 s5 s6 s7 s8 s9 hs hd a
  have HT : Hid (∀ (a : Act) (w' : World) (o' : Option Addr) (c' : Nat), a.tmps.size = 373 → a.defers = [] → a.tmps.getD 0 undef = .slice o0 n0 c0 → a.tmps.getD 1 undef = .slice o1 n1 c1 → a.tmps.getD 2 undef = .slice o' n2 c' → a.tmps.getD 3 undef = .slice o3 n3 c3 → a.tmps.getD 4 undef = .slice o4 n4 c4 → a.tmps.getD 5 undef = .slice o5 n5 c5 → a.tmps.getD 6 undef = .int .i64 at_ → a.tmps.getD 7 undef = .int .i64 gc → a.tmps.getD 8 undef = .string g → a.tmps.getD 9 undef = .int .i64 gl → Row w' o' n2 (fun k => .string (S k)) → Below w.heap.size w w' → Code.wp Try.prog (tail3 Try.f3 6) (bodyPost Try.prog Try.f3 (fun e w' => e = .returned (.bool true) ∧ Below w0.heap.size w0 w')) a w') := fun a w' o' c' hs hd s0 s1 s2 s3 s4 s5 s6 s7 s8 s9 hr hb => tail6 a w' w0 o0 o1 o' o3 o4 o5 n0 n1 n2 n3 n4 n5 c0 c1 c' c3 c4 c5 A B S V C R at_ gc g gl hs hd s0 s1 s2 s3 s4 s5 s6 s7 s8 s9 (h0.below hb) (h1.below hb) hr (h3.below hb) (h4.below hb) (h5.below hb) m0 m1 m2 m3 m4 m5 hS hg hc (hB.trans (hb.mono hB.size))
  have HI := Lib.hid h2
  clear h0 h1 h2 h3 h4 h5 hS hc hB
  have ne := fun (w : World) (a : Option Addr) (n c : Nat) => run_neq_slice_nil_any w 24 9 a n c 0 0 Try.underlying24
  conv => arg 2; whnf
  cases o2 with
  | none =>
    go_upto_if 107 with fail
    go_step
    go_step
    (try simp only [Exit.then])
    go_step
    refine HT.out _ _ none c2 ?_ ?_ ?_ ?_ ?_ ?_ ?_ ?_ ?_ ?_ ?_ ?_ HI.out (Below.refl _ _)
    all_goals rfl
  | some ad =>
    have hmk := make24 n2 (by omega)
    have HSR := Lib.hid (fun w' (hb : Below w.heap.size w w') => range_src HI.out hb)
    clear HI
    go_upto_region 16 with (with_reducible refine here_copy ?_; refine wpList_copy_splice rfl (.tmp 111) (.tmp 112) 24 24 rfl 9 Try.underlying24 (by kernel_rfl) _ _ _ _ _ _ rfl rfl w.heap.size 0 (List.replicate n2 (.string ByteArray.empty)) 9 (heap_alloc_new _ _) ((List.range n2).map (fun k => .string (S k))) (by simp) (fun _ => ⟨rfl, _, rfl, HSR.out _ ((Below.refl _ _).alloc (Nat.le_refl _) _)⟩) (by simp) (range_one (fun _ => rfl)) w.heap.size w ((Below.refl _ _).alloc (Nat.le_refl _) _) (Nat.le_refl _) ?_; intro w3 hh3 hb3)
    have HR3 := Lib.hid (show Row w3 (some ⟨w.heap.size, 0, none⟩) n2 (fun k => .string (S k)) from row_of_block (by have := hh3.out; rw [splice_all (by simp)] at this; exact this) (by omega))
    have HB3 := Lib.hid hb3
    clear hh3 hb3 hmk ne HSR
    repeat (first | (refine HT.out _ _ (some ⟨w.heap.size, 0, none⟩) n2 ?_ ?_ ?_ ?_ ?_ ?_ ?_ ?_ ?_ ?_ ?_ ?_ HR3.out HB3.out) | go_step | (simp only []))
    all_goals rfl

set_option maxHeartbeats 8000000 in
set_option maxRecDepth 1000000 in
theorem tail4 (a : Act) (w w0 : World) (o0 o1 o2 o3 o4 o5 : Option Addr) (n0 n1 n2 n3 n4 n5 c0 c1 c2 c3 c4 c5 : Nat) (A : Nat → Int) (B : Nat → Bool) (S : Nat → ByteArray) (V C R : Nat → Int) (at_ gc : Int) (g : ByteArray) (gl : Int) (hs : a.tmps.size = 373) (hd : a.defers = [])
    (s0 : a.tmps.getD 0 undef = .slice o0 n0 c0)
    (s1 : a.tmps.getD 1 undef = .slice o1 n1 c1)
    (s2 : a.tmps.getD 2 undef = .slice o2 n2 c2)
    (s3 : a.tmps.getD 3 undef = .slice o3 n3 c3)
    (s4 : a.tmps.getD 4 undef = .slice o4 n4 c4)
    (s5 : a.tmps.getD 5 undef = .slice o5 n5 c5)
    (s6 : a.tmps.getD 6 undef = .int .i64 at_) (s7 : a.tmps.getD 7 undef = .int .i64 gc) (s8 : a.tmps.getD 8 undef = .string g) (s9 : a.tmps.getD 9 undef = .int .i64 gl)
    (h0 : Row w o0 n0 (fun k => .int .i64 (A k)))
    (h1 : Row w o1 n1 (fun k => .bool (B k)))
    (h2 : Row w o2 n2 (fun k => .string (S k)))
    (h3 : Row w o3 n3 (fun k => .int .i64 (V k)))
    (h4 : Row w o4 n4 (fun k => .int .i64 (C k)))
    (h5 : Row w o5 n5 (fun k => .int .i64 (R k)))
    (m0 : n0 ≤ 4096)
    (m1 : n1 ≤ 4096)
    (m2 : n2 ≤ 4096)
    (m3 : n3 ≤ 4096)
    (m4 : n4 ≤ 4096)
    (m5 : n5 ≤ 4096)
    (hS : ∀ k, k < n2 → (S k).size ≤ 1048576) (hg : g.size ≤ 1048576) (hc : ∀ i, i < n4 → C i ≤ 9223372036854775807) (hB : Below w0.heap.size w0 w) :
    Code.wp Try.prog (tail3 Try.f3 4) (bodyPost Try.prog Try.f3 (fun e w' => e = .returned (.bool true) ∧ Below w0.heap.size w0 w')) a w := by
  rw [act_lit a hs hd]
  rw [s0, s1, s2, s3, s4, s5, s6, s7, s8, s9]
  obtain ⟨f, hf⟩ : ∃ f : Nat → Value, ∀ t, a.tmps.getD t undef = f t := ⟨_, fun _ => rfl⟩
  simp only [hf]
  clear hf s0 s1 s2 s3 s4 s5 s6 s7 s8 s9 hs hd a
  have HT : Hid (∀ (a : Act) (w' : World) (o' : Option Addr) (c' : Nat), a.tmps.size = 373 → a.defers = [] → a.tmps.getD 0 undef = .slice o0 n0 c0 → a.tmps.getD 1 undef = .slice o' n1 c' → a.tmps.getD 2 undef = .slice o2 n2 c2 → a.tmps.getD 3 undef = .slice o3 n3 c3 → a.tmps.getD 4 undef = .slice o4 n4 c4 → a.tmps.getD 5 undef = .slice o5 n5 c5 → a.tmps.getD 6 undef = .int .i64 at_ → a.tmps.getD 7 undef = .int .i64 gc → a.tmps.getD 8 undef = .string g → a.tmps.getD 9 undef = .int .i64 gl → Row w' o' n1 (fun k => .bool (B k)) → Below w.heap.size w w' → Code.wp Try.prog (tail3 Try.f3 5) (bodyPost Try.prog Try.f3 (fun e w' => e = .returned (.bool true) ∧ Below w0.heap.size w0 w')) a w') := fun a w' o' c' hs hd s0 s1 s2 s3 s4 s5 s6 s7 s8 s9 hr hb => tail5 a w' w0 o0 o' o2 o3 o4 o5 n0 n1 n2 n3 n4 n5 c0 c' c2 c3 c4 c5 A B S V C R at_ gc g gl hs hd s0 s1 s2 s3 s4 s5 s6 s7 s8 s9 (h0.below hb) hr (h2.below hb) (h3.below hb) (h4.below hb) (h5.below hb) m0 m1 m2 m3 m4 m5 hS hg hc (hB.trans (hb.mono hB.size))
  have HI := Lib.hid h1
  clear h0 h1 h2 h3 h4 h5 hS hc hB
  have ne := fun (w : World) (a : Option Addr) (n c : Nat) => run_neq_slice_nil_any w 23 4 a n c 0 0 Try.underlying23
  conv => arg 2; whnf
  cases o1 with
  | none =>
    go_upto_if 98 with fail
    go_step
    go_step
    (try simp only [Exit.then])
    go_step
    refine HT.out _ _ none c1 ?_ ?_ ?_ ?_ ?_ ?_ ?_ ?_ ?_ ?_ ?_ ?_ HI.out (Below.refl _ _)
    all_goals rfl
  | some ad =>
    have hmk := make23 n1 (by omega)
    have HSR := Lib.hid (fun w' (hb : Below w.heap.size w w') => range_src HI.out hb)
    clear HI
    go_upto_region 12 with (with_reducible refine here_copy ?_; refine wpList_copy_splice rfl (.tmp 102) (.tmp 103) 23 23 rfl 4 Try.underlying23 (by kernel_rfl) _ _ _ _ _ _ rfl rfl w.heap.size 0 (List.replicate n1 (.bool false)) 4 (heap_alloc_new _ _) ((List.range n1).map (fun k => .bool (B k))) (by simp) (fun _ => ⟨rfl, _, rfl, HSR.out _ ((Below.refl _ _).alloc (Nat.le_refl _) _)⟩) (by simp) (range_one (fun _ => rfl)) w.heap.size w ((Below.refl _ _).alloc (Nat.le_refl _) _) (Nat.le_refl _) ?_; intro w3 hh3 hb3)
    have HR3 := Lib.hid (show Row w3 (some ⟨w.heap.size, 0, none⟩) n1 (fun k => .bool (B k)) from row_of_block (by have := hh3.out; rw [splice_all (by simp)] at this; exact this) (by omega))
    have HB3 := Lib.hid hb3
    clear hh3 hb3 hmk ne HSR
    repeat (first | (refine HT.out _ _ (some ⟨w.heap.size, 0, none⟩) n1 ?_ ?_ ?_ ?_ ?_ ?_ ?_ ?_ ?_ ?_ ?_ ?_ HR3.out HB3.out) | go_step | (simp only []))
    all_goals rfl

set_option maxHeartbeats 8000000 in
set_option maxRecDepth 1000000 in
theorem copies (a : Act) (w w0 : World) (o0 o1 o2 o3 o4 o5 : Option Addr) (n0 n1 n2 n3 n4 n5 c0 c1 c2 c3 c4 c5 : Nat) (A : Nat → Int) (B : Nat → Bool) (S : Nat → ByteArray) (V C R : Nat → Int) (at_ gc : Int) (g : ByteArray) (gl : Int) (hs : a.tmps.size = 373) (hd : a.defers = [])
    (s0 : a.tmps.getD 0 undef = .slice o0 n0 c0)
    (s1 : a.tmps.getD 1 undef = .slice o1 n1 c1)
    (s2 : a.tmps.getD 2 undef = .slice o2 n2 c2)
    (s3 : a.tmps.getD 3 undef = .slice o3 n3 c3)
    (s4 : a.tmps.getD 4 undef = .slice o4 n4 c4)
    (s5 : a.tmps.getD 5 undef = .slice o5 n5 c5)
    (s6 : a.tmps.getD 6 undef = .int .i64 at_) (s7 : a.tmps.getD 7 undef = .int .i64 gc) (s8 : a.tmps.getD 8 undef = .string g) (s9 : a.tmps.getD 9 undef = .int .i64 gl)
    (h0 : Row w o0 n0 (fun k => .int .i64 (A k)))
    (h1 : Row w o1 n1 (fun k => .bool (B k)))
    (h2 : Row w o2 n2 (fun k => .string (S k)))
    (h3 : Row w o3 n3 (fun k => .int .i64 (V k)))
    (h4 : Row w o4 n4 (fun k => .int .i64 (C k)))
    (h5 : Row w o5 n5 (fun k => .int .i64 (R k)))
    (m0 : n0 ≤ 4096)
    (m1 : n1 ≤ 4096)
    (m2 : n2 ≤ 4096)
    (m3 : n3 ≤ 4096)
    (m4 : n4 ≤ 4096)
    (m5 : n5 ≤ 4096)
    (hS : ∀ k, k < n2 → (S k).size ≤ 1048576) (hg : g.size ≤ 1048576) (hc : ∀ i, i < n4 → C i ≤ 9223372036854775807) (hB : Below w0.heap.size w0 w) :
    Code.wp Try.prog (tail3 Try.f3 3) (bodyPost Try.prog Try.f3 (fun e w' => e = .returned (.bool true) ∧ Below w0.heap.size w0 w')) a w := by
  rw [act_lit a hs hd]
  rw [s0, s1, s2, s3, s4, s5, s6, s7, s8, s9]
  obtain ⟨f, hf⟩ : ∃ f : Nat → Value, ∀ t, a.tmps.getD t undef = f t := ⟨_, fun _ => rfl⟩
  simp only [hf]
  clear hf s0 s1 s2 s3 s4 s5 s6 s7 s8 s9 hs hd a
  have HT : Hid (∀ (a : Act) (w' : World) (o' : Option Addr) (c' : Nat), a.tmps.size = 373 → a.defers = [] → a.tmps.getD 0 undef = .slice o' n0 c' → a.tmps.getD 1 undef = .slice o1 n1 c1 → a.tmps.getD 2 undef = .slice o2 n2 c2 → a.tmps.getD 3 undef = .slice o3 n3 c3 → a.tmps.getD 4 undef = .slice o4 n4 c4 → a.tmps.getD 5 undef = .slice o5 n5 c5 → a.tmps.getD 6 undef = .int .i64 at_ → a.tmps.getD 7 undef = .int .i64 gc → a.tmps.getD 8 undef = .string g → a.tmps.getD 9 undef = .int .i64 gl → Row w' o' n0 (fun k => .int .i64 (A k)) → Below w.heap.size w w' → Code.wp Try.prog (tail3 Try.f3 4) (bodyPost Try.prog Try.f3 (fun e w' => e = .returned (.bool true) ∧ Below w0.heap.size w0 w')) a w') := fun a w' o' c' hs hd s0 s1 s2 s3 s4 s5 s6 s7 s8 s9 hr hb => tail4 a w' w0 o' o1 o2 o3 o4 o5 n0 n1 n2 n3 n4 n5 c' c1 c2 c3 c4 c5 A B S V C R at_ gc g gl hs hd s0 s1 s2 s3 s4 s5 s6 s7 s8 s9 hr (h1.below hb) (h2.below hb) (h3.below hb) (h4.below hb) (h5.below hb) m0 m1 m2 m3 m4 m5 hS hg hc (hB.trans (hb.mono hB.size))
  have HI := Lib.hid h0
  clear h0 h1 h2 h3 h4 h5 hS hc hB
  have ne := fun (w : World) (a : Option Addr) (n c : Nat) => run_neq_slice_nil_any w 22 3 a n c 0 0 Try.underlying22
  conv => arg 2; whnf
  cases o0 with
  | none =>
    go_upto_if 89 with fail
    go_step
    go_step
    (try simp only [Exit.then])
    go_step
    refine HT.out _ _ none c0 ?_ ?_ ?_ ?_ ?_ ?_ ?_ ?_ ?_ ?_ ?_ ?_ HI.out (Below.refl _ _)
    all_goals rfl
  | some ad =>
    have hmk := make22 n0 (by omega)
    have HSR := Lib.hid (fun w' (hb : Below w.heap.size w w') => range_src HI.out hb)
    clear HI
    go_upto_region 8 with (with_reducible refine here_copy ?_; refine wpList_copy_splice rfl (.tmp 93) (.tmp 94) 22 22 rfl 3 Try.underlying22 (by kernel_rfl) _ _ _ _ _ _ rfl rfl w.heap.size 0 (List.replicate n0 (.int .i64 0)) 3 (heap_alloc_new _ _) ((List.range n0).map (fun k => .int .i64 (A k))) (by simp) (fun _ => ⟨rfl, _, rfl, HSR.out _ ((Below.refl _ _).alloc (Nat.le_refl _) _)⟩) (by simp) (range_one (fun _ => rfl)) w.heap.size w ((Below.refl _ _).alloc (Nat.le_refl _) _) (Nat.le_refl _) ?_; intro w3 hh3 hb3)
    have HR3 := Lib.hid (show Row w3 (some ⟨w.heap.size, 0, none⟩) n0 (fun k => .int .i64 (A k)) from row_of_block (by have := hh3.out; rw [splice_all (by simp)] at this; exact this) (by omega))
    have HB3 := Lib.hid hb3
    clear hh3 hb3 hmk ne HSR
    repeat (first | (refine HT.out _ _ (some ⟨w.heap.size, 0, none⟩) n0 ?_ ?_ ?_ ?_ ?_ ?_ ?_ ?_ ?_ ?_ ?_ ?_ HR3.out HB3.out) | go_step | (simp only []))
    all_goals rfl
end Go.Proofs.Qxb6616342a
