/-
  The law's building of the second history's slices, and the four calls.
-/
import Derived.Test.Qxb6616342aCmp
import Derived.Test.Qxb6616342aCopies
namespace Go.Proofs.Qxb6616342a
open Go.RowKit

/-- Block b is filled with X up to place k; behind it stands z. -/
def Fill (w : World) (b : Nat) (E : TypeId) (m : Nat) (X : Nat → Value) (z : Value) (k : Nat) : Prop :=
  ∃ xs : List Value, w.heap[b]? = some (.cells xs.toArray E (0, 0)) ∧ xs.length = m ∧ (∀ i, i < k → xs[i]? = some (X i)) ∧ ∀ i, k ≤ i → i < m → xs[i]? = some z

theorem Fill.start {w : World} {b : Nat} {E : TypeId} {m : Nat} {X : Nat → Value} {z : Value} (h : w.heap[b]? = some (.cells (List.replicate m z).toArray E (0, 0))) : Fill w b E m X z 0 :=
  ⟨_, h, by simp, fun i hi => by omega, fun i _ hi => by simp [hi]⟩

theorem Fill.cell {w : World} {b : Nat} {E : TypeId} {m : Nat} {X : Nat → Value} {z : Value} {k : Nat} (h : Fill w b E m X z k) (hk : k < m) : w.cell? ⟨b, k, none⟩ = some z ∧ w.frozen? ⟨b, k, none⟩ = false := by
  obtain ⟨xs, hb, hl, _, h2⟩ := h
  have := h2 k (Nat.le_refl _) hk
  simp [World.cell?, World.frozen?, hb, this]

theorem Fill.set {w : World} {b : Nat} {E : TypeId} {m : Nat} {X : Nat → Value} {z : Value} {k : Nat} (h : Fill w b E m X z k) (hk : k < m) {u : Value} (hu : X k = u) : Fill (w.setCell ⟨b, k, none⟩ u) b E m X z (k + 1) := by
  subst hu
  obtain ⟨xs, hb, hl, h1, h2⟩ := h
  refine ⟨xs.set k (X k), ?_, by simp [hl], fun i hi => ?_, fun i hi hm => ?_⟩
  · rw [heap_setCell_same w b k _ E _ hb]
    simp
  · rw [List.getElem?_set]
    split
    · rename_i e; subst e; rw [if_pos (by omega)]
    · exact h1 i (by omega)
  · rw [List.getElem?_set, if_neg (by omega)]
    exact h2 i (by omega) hm

theorem Fill.pass {w : World} {b : Nat} {E : TypeId} {m : Nat} {X : Nat → Value} {z : Value} {k : Nat} (h : Fill w b E m X z k) (hX : X k = z) (hk : k < m) : Fill w b E m X z (k + 1) := by
  obtain ⟨xs, hb, hl, h1, h2⟩ := h
  refine ⟨xs, hb, hl, fun i hi => ?_, fun i hi hm => h2 i (by omega) hm⟩
  rcases Nat.lt_or_ge i k with h' | h'
  · exact h1 i h'
  · obtain rfl : i = k := by omega
    rw [hX]
    exact h2 i (Nat.le_refl _) hk

theorem Fill.other {w : World} {b : Nat} {E : TypeId} {m : Nat} {X : Nat → Value} {z : Value} {k : Nat} (h : Fill w b E m X z k) {b' i : Nat} (hb' : b ≠ b') (u : Value) : Fill (w.setCell ⟨b', i, none⟩ u) b E m X z k := by
  obtain ⟨xs, hb, h1⟩ := h
  exact ⟨xs, (heap_setCell_other w ⟨b', i, none⟩ b u hb').trans hb, h1⟩

theorem Fill.alloc {w : World} {b : Nat} {E : TypeId} {m : Nat} {X : Nat → Value} {z : Value} {k : Nat} (h : Fill w b E m X z k) (o : Obj) : Fill (w.alloc o) b E m X z k := by
  obtain ⟨xs, hb, h1⟩ := h
  exact ⟨xs, (Below.heap_alloc w o b (lt_of_block hb)).trans hb, h1⟩

theorem Fill.row {w : World} {b : Nat} {E : TypeId} {m : Nat} {X : Nat → Value} {z : Value} (h : Fill w b E m X z m) (hm : m ≤ 4097) : Row w (some ⟨b, 0, none⟩) m X := by
  obtain ⟨xs, hb, hl, h1, _⟩ := h
  refine ⟨by omega, fun k hk => ⟨b, 0, rfl, lt_of_block hb, ?_⟩⟩
  have := h1 k hk
  simp [World.cell?, hb, this]

theorem Fill.new (w : World) (b m : Nat) (E : TypeId) (X : Nat → Value) (z : Value) (h : b = w.heap.size) : Fill (w.alloc (.cells (List.replicate m z).toArray E)) b E m X z 0 := by
  subst h
  exact Fill.start (heap_alloc_new _ _)

theorem make22' (n : Nat) (hn : n ≤ 4096) (w : World) : (Instr.makeSlice 22 (.int .i64 ((n : Int) + 1)) (.int .i64 ((n : Int) + 1))).run Try.prog w = .ok (.slice (some ⟨w.heap.size, 0, none⟩) (n + 1) (n + 1)) (w.alloc (.cells (List.replicate (n + 1) (.int .i64 0)).toArray 3)) := by
  have := make22 (n + 1) (by omega) w
  rw [show (((n + 1 : Nat)) : Int) = (n : Int) + 1 by omega] at this
  exact this

theorem make23' (n : Nat) (hn : n ≤ 4096) (w : World) : (Instr.makeSlice 23 (.int .i64 ((n : Int) + 1)) (.int .i64 ((n : Int) + 1))).run Try.prog w = .ok (.slice (some ⟨w.heap.size, 0, none⟩) (n + 1) (n + 1)) (w.alloc (.cells (List.replicate (n + 1) (.bool false)).toArray 4)) := by
  have := make23 (n + 1) (by omega) w
  rw [show (((n + 1 : Nat)) : Int) = (n : Int) + 1 by omega] at this
  exact this

theorem make24' (n : Nat) (hn : n ≤ 4096) (w : World) : (Instr.makeSlice 24 (.int .i64 ((n : Int) + 1)) (.int .i64 ((n : Int) + 1))).run Try.prog w = .ok (.slice (some ⟨w.heap.size, 0, none⟩) (n + 1) (n + 1)) (w.alloc (.cells (List.replicate (n + 1) (.string ByteArray.empty)).toArray 9)) := by
  have := make24 (n + 1) (by omega) w
  rw [show (((n + 1 : Nat)) : Int) = (n : Int) + 1 by omega] at this
  exact this

theorem make25' (n : Nat) (hn : n ≤ 4096) (w : World) : (Instr.makeSlice 25 (.int .i64 ((n : Int) + 1)) (.int .i64 ((n : Int) + 1))).run Try.prog w = .ok (.slice (some ⟨w.heap.size, 0, none⟩) (n + 1) (n + 1)) (w.alloc (.cells (List.replicate (n + 1) (.int .i64 0)).toArray 2)) := by
  have := make25 (n + 1) (by omega) w
  rw [show (((n + 1 : Nat)) : Int) = (n : Int) + 1 by omega] at this
  exact this

theorem ins_ne {α : Type} {p i : Nat} {x : α} {X : Nat → α} (h : i ≠ p) : ins p x X i = X (if i ≤ p then i else i - 1) := by
  unfold ins
  by_cases h1 : i < p
  · rw [if_pos h1, if_pos (by omega)]
  · rw [if_neg h1, if_neg h, if_neg (by omega)]

theorem ZRow.below {w w' : World} {g : Nat} {l : List Out} (h : ZRow w g l) (hb : Below w.heap.size w w') : ZRow w' g l :=
  ⟨Nat.lt_of_lt_of_le h.1 hb.size, fun i o hi t u hu => below_cell hb (h.2 i o hi t u hu)⟩

/-- The six new slices, filled up to place i. -/
structure Six (w wr : World) (n p : Nat) (A : Nat → Int) (B : Nat → Bool) (S : Nat → ByteArray) (V C R : Nat → Int) (gc : Int) (g : ByteArray) (gl : Int) (i : Nat) : Prop where
  f0 : Fill wr w.heap.size 3 (n + 1) (fun k => .int .i64 (ins p gc A k)) (.int .i64 0) i
  f1 : Fill wr (w.heap.size + 1) 4 (n + 1) (fun k => .bool (ins p false B k)) (.bool false) i
  f2 : Fill wr (w.heap.size + 2) 9 (n + 1) (fun k => .string (ins p g S k)) (.string ByteArray.empty) i
  f3 : Fill wr (w.heap.size + 3) 3 (n + 1) (fun k => .int .i64 (ins p (-1) V k)) (.int .i64 0) i
  f4 : Fill wr (w.heap.size + 4) 2 (n + 1) (fun k => .int .i64 (ins p gl C k)) (.int .i64 0) i
  f5 : Fill wr (w.heap.size + 5) 2 (n + 1) (fun k => .int .i64 (ins p (-1) R k)) (.int .i64 0) i
  below : Below w.heap.size w wr

set_option maxHeartbeats 8000000 in
set_option maxRecDepth 1000000 in
theorem tail15 (a : Act) (w w0 : World) (o0 o1 o2 o3 o4 o5 : Option Addr) (n c0 c1 c2 c3 c4 c5 p : Nat) (A : Nat → Int) (B : Nat → Bool) (S : Nat → ByteArray) (V C R : Nat → Int) (gc : Int) (g : ByteArray) (gl : Int) (hs : a.tmps.size = 373) (hd : a.defers = [])
    (s0 : a.tmps.getD 0 undef = .slice o0 n c0)
    (s1 : a.tmps.getD 1 undef = .slice o1 n c1)
    (s2 : a.tmps.getD 2 undef = .slice o2 n c2)
    (s3 : a.tmps.getD 3 undef = .slice o3 n c3)
    (s4 : a.tmps.getD 4 undef = .slice o4 n c4)
    (s5 : a.tmps.getD 5 undef = .slice o5 n c5)
    (s6 : a.tmps.getD 6 undef = .int .i64 (p : Int)) (s7 : a.tmps.getD 7 undef = .int .i64 gc) (s8 : a.tmps.getD 8 undef = .string g) (s9 : a.tmps.getD 9 undef = .int .i64 gl) (s29 : a.tmps.getD 29 undef = .int .i64 (n : Int))
    (h0 : Row w o0 n (fun k => .int .i64 (A k)))
    (h1 : Row w o1 n (fun k => .bool (B k)))
    (h2 : Row w o2 n (fun k => .string (S k)))
    (h3 : Row w o3 n (fun k => .int .i64 (V k)))
    (h4 : Row w o4 n (fun k => .int .i64 (C k)))
    (h5 : Row w o5 n (fun k => .int .i64 (R k)))
    (hn : n ≤ 4096) (hp : p ≤ n) (hr : ∀ i, i < n → R i = -1 ∨ C i ≤ R i) (hc : ∀ i, i < n → C i ≤ 9223372036854775807) (hB : Below w0.heap.size w0 w) :
    Code.wp Try.prog (tail3 Try.f3 15) (bodyPost Try.prog Try.f3 (fun e w' => e = .returned (.bool true) ∧ Below w0.heap.size w0 w')) a w := by
  rw [act_lit a hs hd]
  rw [s0, s1, s2, s3, s4, s5, s6, s7, s8, s9, s29]
  obtain ⟨f, hf⟩ : ∃ f : Nat → Value, ∀ t, a.tmps.getD t undef = f t := ⟨_, fun _ => rfl⟩
  simp only [hf]
  clear hf s0 s1 s2 s3 s4 s5 s6 s7 s8 s9 s29 hs hd a
  have H0 := Lib.hid h0
  have H1 := Lib.hid h1
  have H2 := Lib.hid h2
  have H3 := Lib.hid h3
  have H4 := Lib.hid h4
  have H5 := Lib.hid h5
  have HB := Lib.hid hB
  have HR := Lib.hid (And.intro hr hc)
  clear h0 h1 h2 h3 h4 h5 hB hr hc
  have mk22 := make22' n hn
  have mk23 := make23' n hn
  have mk24 := make24' n hn
  have mk25 := make25' n hn
  conv => arg 2; whnf
  go_wp2
  clear mk22 mk23 mk24 mk25
  go_loopg [36, 37] (n + 1) (fun gh s36 s37 wr => ∃ i : Nat, i ≤ n + 1 ∧ gh = n + 1 - i ∧ s37 = .int .i64 i ∧ s36 = .int .i64 (((if i ≤ p then i else i - 1) : Nat) : Int) ∧ Six w wr n p A B S V C R gc g gl i)
  case atStart => exact ⟨0, Nat.zero_le _, rfl, rfl, by simp, ⟨(Fill.alloc ((Fill.alloc ((Fill.alloc ((Fill.alloc ((Fill.alloc (Fill.new _ _ _ _ _ _ (by simp)) _)) _)) _)) _)) _), (Fill.alloc ((Fill.alloc ((Fill.alloc ((Fill.alloc (Fill.new _ _ _ _ _ _ (by simp)) _)) _)) _)) _), (Fill.alloc ((Fill.alloc ((Fill.alloc (Fill.new _ _ _ _ _ _ (by simp)) _)) _)) _), (Fill.alloc ((Fill.alloc (Fill.new _ _ _ _ _ _ (by simp)) _)) _), (Fill.alloc (Fill.new _ _ _ _ _ _ (by simp)) _), Fill.new _ _ _ _ _ _ (by simp), by (repeat (first | exact Below.refl _ _ | refine Below.alloc ?_ (by simp <;> omega) _ | refine Below.setCell ?_ (by simp <;> omega) _ | refine Below.drew ?_ | refine draws_below ?_ _))⟩⟩
  case round =>
  obtain ⟨i, hi, rfl, rfl, rfl, hx⟩ := hrel
  have HX := Lib.hid hx
  clear hx
  by_cases hlt : i ≤ n
  case pos =>
    obtain ⟨d0, z0⟩ := HX.out.f0.cell (by omega)
    obtain ⟨d1, z1⟩ := HX.out.f1.cell (by omega)
    obtain ⟨d2, z2⟩ := HX.out.f2.cell (by omega)
    obtain ⟨d3, z3⟩ := HX.out.f3.cell (by omega)
    obtain ⟨d4, z4⟩ := HX.out.f4.cell (by omega)
    obtain ⟨d5, z5⟩ := HX.out.f5.cell (by omega)
    by_cases hip : i = p
    case pos =>
      have hib : ((i : Int) == (p : Int)) = true := by rw [beq_iff_eq]; omega
      have FIN := Lib.hid (show Six w (((((wr.setCell ⟨w.heap.size, i, none⟩ (.int .i64 gc)).setCell ⟨w.heap.size + 2, i, none⟩ (.string g)).setCell ⟨w.heap.size + 3, i, none⟩ (.int .i64 (-1))).setCell ⟨w.heap.size + 4, i, none⟩ (.int .i64 gl)).setCell ⟨w.heap.size + 5, i, none⟩ (.int .i64 (-1))) n p A B S V C R gc g gl (i + 1) from ⟨(((((HX.out.f0.set (by omega) (by rw [hip, ins_at])).other (by omega) _).other (by omega) _).other (by omega) _).other (by omega) _), ((((((HX.out.f1.other (by omega) _).other (by omega) _).other (by omega) _).other (by omega) _).other (by omega) _).pass (by rw [hip, ins_at]) (by omega)), (((((HX.out.f2.other (by omega) _).set (by omega) (by rw [hip, ins_at])).other (by omega) _).other (by omega) _).other (by omega) _), (((((HX.out.f3.other (by omega) _).other (by omega) _).set (by omega) (by rw [hip, ins_at])).other (by omega) _).other (by omega) _), (((((HX.out.f4.other (by omega) _).other (by omega) _).other (by omega) _).set (by omega) (by rw [hip, ins_at])).other (by omega) _), (((((HX.out.f5.other (by omega) _).other (by omega) _).other (by omega) _).other (by omega) _).set (by omega) (by rw [hip, ins_at])), (((((HX.out.below.setCell (p := ⟨_, _, none⟩) (by simp <;> omega) _).setCell (p := ⟨_, _, none⟩) (by simp <;> omega) _).setCell (p := ⟨_, _, none⟩) (by simp <;> omega) _).setCell (p := ⟨_, _, none⟩) (by simp <;> omega) _).setCell (p := ⟨_, _, none⟩) (by simp <;> omega) _)⟩)
      have hk1 : (if i ≤ p then i else i - 1) = (if i + 1 ≤ p then i + 1 else i + 1 - 1) := by rw [if_pos (by omega), if_neg (by omega)]; omega
      have HK := Lib.hid hk1
      clear hk1 hip H0 H1 H2 H3 H4 H5 HX
      generalize (if i ≤ p then i else i - 1) = kk at *
      go_wp2
      go_roundg (n + 1 - (i + 1))
      case measure => omega
      case rel => exact ⟨i + 1, by omega, rfl, by go_num, by rw [HK.out], FIN.out⟩
    have hib : ((i : Int) == (p : Int)) = false := by rw [beq_eq_false_iff_ne]; omega
    have hkk : (if i ≤ p then i else i - 1) < n := by split <;> omega
    have HI : Hid (∀ {α : Type} (x : α) (X : Nat → α), ins p x X i = X (if i ≤ p then i else i - 1)) := fun x X => ins_ne hip
    have hk1 : (if i ≤ p then i else i - 1) + 1 = (if i + 1 ≤ p then i + 1 else i + 1 - 1) := by
      by_cases h : i ≤ p
      · rw [if_pos h, if_pos (by omega)]
      · rw [if_neg h, if_neg (by omega)]; omega
    have HK := Lib.hid hk1
    clear hk1 hip
    generalize (if i ≤ p then i else i - 1) = kk at *
    have FIN := Lib.hid (show Six w ((((((wr.setCell ⟨w.heap.size, i, none⟩ (.int .i64 (A kk))).setCell ⟨w.heap.size + 1, i, none⟩ (.bool (B kk))).setCell ⟨w.heap.size + 2, i, none⟩ (.string (S kk))).setCell ⟨w.heap.size + 3, i, none⟩ (.int .i64 (V kk))).setCell ⟨w.heap.size + 4, i, none⟩ (.int .i64 (C kk))).setCell ⟨w.heap.size + 5, i, none⟩ (.int .i64 (R kk))) n p A B S V C R gc g gl (i + 1) from ⟨((((((HX.out.f0.set (by omega) (by rw [HI.out])).other (by omega) _).other (by omega) _).other (by omega) _).other (by omega) _).other (by omega) _), ((((((HX.out.f1.other (by omega) _).set (by omega) (by rw [HI.out])).other (by omega) _).other (by omega) _).other (by omega) _).other (by omega) _), ((((((HX.out.f2.other (by omega) _).other (by omega) _).set (by omega) (by rw [HI.out])).other (by omega) _).other (by omega) _).other (by omega) _), ((((((HX.out.f3.other (by omega) _).other (by omega) _).other (by omega) _).set (by omega) (by rw [HI.out])).other (by omega) _).other (by omega) _), ((((((HX.out.f4.other (by omega) _).other (by omega) _).other (by omega) _).other (by omega) _).set (by omega) (by rw [HI.out])).other (by omega) _), ((((((HX.out.f5.other (by omega) _).other (by omega) _).other (by omega) _).other (by omega) _).other (by omega) _).set (by omega) (by rw [HI.out])), ((((((HX.out.below.setCell (p := ⟨_, _, none⟩) (by simp <;> omega) _).setCell (p := ⟨_, _, none⟩) (by simp <;> omega) _).setCell (p := ⟨_, _, none⟩) (by simp <;> omega) _).setCell (p := ⟨_, _, none⟩) (by simp <;> omega) _).setCell (p := ⟨_, _, none⟩) (by simp <;> omega) _).setCell (p := ⟨_, _, none⟩) (by simp <;> omega) _)⟩)
    obtain ⟨b0, f0, rfl, t0, r0⟩ := H0.out.cells kk hkk
    replace r0 := below_cell HX.out.below r0
    obtain ⟨b1, f1, rfl, t1, r1⟩ := H1.out.cells kk hkk
    replace r1 := below_cell HX.out.below r1
    obtain ⟨b2, f2, rfl, t2, r2⟩ := H2.out.cells kk hkk
    replace r2 := below_cell HX.out.below r2
    obtain ⟨b3, f3, rfl, t3, r3⟩ := H3.out.cells kk hkk
    replace r3 := below_cell HX.out.below r3
    obtain ⟨b4, f4, rfl, t4, r4⟩ := H4.out.cells kk hkk
    replace r4 := below_cell HX.out.below r4
    obtain ⟨b5, f5, rfl, t5, r5⟩ := H5.out.cells kk hkk
    replace r5 := below_cell HX.out.below r5
    have n10 : ¬ (b1 = w.heap.size) := by omega
    have n20 : ¬ (b2 = w.heap.size) := by omega
    have n21 : ¬ (b2 = w.heap.size + 1) := by omega
    have n30 : ¬ (b3 = w.heap.size) := by omega
    have n31 : ¬ (b3 = w.heap.size + 1) := by omega
    have n32 : ¬ (b3 = w.heap.size + 2) := by omega
    have n40 : ¬ (b4 = w.heap.size) := by omega
    have n41 : ¬ (b4 = w.heap.size + 1) := by omega
    have n42 : ¬ (b4 = w.heap.size + 2) := by omega
    have n43 : ¬ (b4 = w.heap.size + 3) := by omega
    have n50 : ¬ (b5 = w.heap.size) := by omega
    have n51 : ¬ (b5 = w.heap.size + 1) := by omega
    have n52 : ¬ (b5 = w.heap.size + 2) := by omega
    have n53 : ¬ (b5 = w.heap.size + 3) := by omega
    have n54 : ¬ (b5 = w.heap.size + 4) := by omega
    clear H0 H1 H2 H3 H4 H5 HX HI t0 t1 t2 t3 t4 t5
    go_wp2
    go_roundg (n + 1 - (i + 1))
    case measure => omega
    case rel => exact ⟨i + 1, by omega, rfl, by go_num, by rw [← HK.out]; go_num, FIN.out⟩
  obtain rfl : i = n + 1 := by omega
  have N1 := Lib.hid (new_any wr o0 o1 o2 o3 o4 o5 n c0 c1 c2 c3 c4 c5 A B S V C R (H0.out.below HX.out.below) (H1.out.below HX.out.below) (H2.out.below HX.out.below) (H3.out.below HX.out.below) (H4.out.below HX.out.below) (H5.out.below HX.out.below) (by omega))
  have F0 := Lib.hid (HX.out.f0.row (by omega))
  have F1 := Lib.hid (HX.out.f1.row (by omega))
  have F2 := Lib.hid (HX.out.f2.row (by omega))
  have F3 := Lib.hid (HX.out.f3.row (by omega))
  have F4 := Lib.hid (HX.out.f4.row (by omega))
  have F5 := Lib.hid (HX.out.f5.row (by omega))
  have R5 := Lib.hid (H5.out.below HX.out.below)
  have HB2 := Lib.hid (HB.out.trans (HX.out.below.mono HB.out.size))
  clear HX H0 H1 H2 H3 H4 H5 HB
  go_wp2_with fail
  refine N1.out.mono ?_
  rintro e w1 ⟨rfl, B1, v, Hh⟩
  obtain ⟨ao, cap1, rfl, hO⟩ := Hh.ops
  have M1 := Lib.hid (ops_any w1 wr.heap.size ao n cap1 A B S V C R Hh.cell hO (by omega))
  clear hO Hh N1
  go_wp2_with fail
  refine M1.out.mono ?_
  rintro e w2 ⟨G1, rfl, B2, Z1⟩
  have B12 : Below wr.heap.size wr w2 := B1.trans (B2.mono B1.size)
  have N2 := Lib.hid (new_any w2 (some ⟨w.heap.size, 0, none⟩) (some ⟨w.heap.size + 1, 0, none⟩) (some ⟨w.heap.size + 2, 0, none⟩) (some ⟨w.heap.size + 3, 0, none⟩) (some ⟨w.heap.size + 4, 0, none⟩) (some ⟨w.heap.size + 5, 0, none⟩) (n + 1) (n + 1) (n + 1) (n + 1) (n + 1) (n + 1) (n + 1) (ins p gc A) (ins p false B) (ins p g S) (ins p (-1) V) (ins p gl C) (ins p (-1) R) (F0.out.below B12) (F1.out.below B12) (F2.out.below B12) (F3.out.below B12) (F4.out.below B12) (F5.out.below B12) (by omega))
  have HZ1 := Lib.hid Z1
  have HB12 := Lib.hid B12
  clear B1 B2 Z1 B12 M1 F0 F1 F2 F3 F4 F5
  go_wp2_with fail
  refine N2.out.mono ?_
  rintro e w3 ⟨rfl, B3, v2, Hh⟩
  obtain ⟨ao2, cap2, rfl, hO⟩ := Hh.ops
  have M2 := ops_any w3 w2.heap.size ao2 (n + 1) cap2 (ins p gc A) (ins p false B) (ins p g S) (ins p (-1) V) (ins p gl C) (ins p (-1) R) Hh.cell hO (by omega)
  rw [outs_ins A B S V C R p gc g gl hp] at M2
  have HM2 := Lib.hid M2
  have HB3 := Lib.hid B3
  clear hO Hh N2 M2 B3
  go_wp2_with fail
  refine HM2.out.mono ?_
  rintro e w4 ⟨G2, rfl, B4, Z2⟩
  have B34 : Below w2.heap.size w2 w4 := HB3.out.trans (B4.mono HB3.out.size)
  have B14 : Below wr.heap.size wr w4 := HB12.out.trans (B34.mono HB12.out.size)
  have Z1' : ZRow w4 G1 (outs A B S V C R n n) := HZ1.out.below B34
  have T := Lib.hid (fun (a : Act) (hs : a.tmps.size = 373) (hd : a.defers = []) s5 s29 s38 s39 => tail25 a w4 w0 G1 G2 n c5 o5 R (outs A B S V C R n n) hs hd s5 s29 s38 s39 (R5.out.below B14) hn (outs_le A B S V C R n n) (cnt_outs A B S V C R n n) (fun i o h => outs_ret A B S V C R HR.out.1 HR.out.2 i o h) Z1' Z2 (HB2.out.trans (B14.mono HB2.out.size)))
  clear B34 B14 Z1' B4 Z2 HM2 HB3 HB12 HZ1
  simp only []
  go_step
  go_step
  go_step
  go_step
  go_step
  (try simp only [Exit.then])
  go_step
  refine T.out _ ?_ ?_ ?_ ?_ ?_ ?_
  all_goals rfl
end Go.Proofs.Qxb6616342a
