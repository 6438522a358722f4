/-
  A parser with two open groups: what lies in memory, and how it stays.
-/
import Derived.Test.Qxb6616971aNew
namespace Go.Proofs.Qxb6616971a
open Go.RowKit

/-- The parser p with its own parts t and two groups go, gi (their parts po, pi), listed at sb; all below block S, from N on; the innermost text's row lies apart. -/
structure TwoG (w : World) (keep : Bool) (N S p t po pi go gi sb : Nat) (v1 v2 v3 : Value) (a b c : List Value) : Prop where
  par : IsParser w p keep t (.slice (some ⟨sb, 0, none⟩) 2 2)
  s0 : w.cell? ⟨sb, 0, none⟩ = some (.pointer (some ⟨go, 0, none⟩))
  s1 : w.cell? ⟨sb, 1, none⟩ = some (.pointer (some ⟨gi, 0, none⟩))
  g0 : w.cell? ⟨go, 8, none⟩ = some (.pointer (some ⟨po, 0, none⟩))
  g1 : w.cell? ⟨gi, 8, none⟩ = some (.pointer (some ⟨pi, 0, none⟩))
  Tt : ∃ B, Text w B t v1 a 1 ∧ N ≤ B
  To : ∃ B, Text w B po v2 b 2 ∧ N ≤ B
  Ti : ∃ B, Text w B pi v3 c 3 ∧ N ≤ B ∧ pi < B ∧ B ≤ w.heap.size
  lo : N ≤ p ∧ N ≤ t ∧ N ≤ po ∧ N ≤ pi ∧ N ≤ go ∧ N ≤ gi ∧ N ≤ sb
  hi : p < S ∧ t < S ∧ po < S ∧ pi < S ∧ go < S ∧ gi < S ∧ sb < S
  ne : pi ≠ p ∧ pi ≠ t ∧ pi ≠ po ∧ pi ≠ go ∧ pi ≠ gi ∧ pi ≠ sb
  r1 : ∀ k, v1.ownBlock = some k → N ≤ k ∧ k < S ∧ k ≠ pi
  r2 : ∀ k, v2.ownBlock = some k → N ≤ k ∧ k < S ∧ k ≠ pi
  r3 : ∀ k, v3.ownBlock = some k → N ≤ k ∧ k ≠ p ∧ k ≠ t ∧ k ≠ po ∧ k ≠ pi ∧ k ≠ go ∧ k ≠ gi ∧ k ≠ sb ∧ v1.ownBlock ≠ some k ∧ v2.ownBlock ≠ some k
  size : S ≤ w.heap.size

/-- A write to a builder elsewhere. -/
theorem TwoG.wrote {w w' : World} {keep : Bool} {N S p t po pi go gi sb : Nat} {v1 v2 v3 : Value} {a b c : List Value} (G : TwoG w keep N S p t po pi go gi sb v1 v2 v3 a b c) {x : Nat} {v v' : Value} (W : Wrote w w' x v v') (hx : S ≤ x) (hv : ∀ k, v.ownBlock = some k → S ≤ k)
    (h3 : ∀ k, v3.ownBlock = some k → k ≠ x ∧ v.ownBlock ≠ some k) : TwoG w' keep N S p t po pi go gi sb v1 v2 v3 a b c := by
  have hi := G.hi
  have nv : ∀ k, k < S → v.ownBlock ≠ some k := fun k hk e => by have := hv k e; omega
  obtain ⟨B1, T1, h1⟩ := G.Tt
  obtain ⟨B2, T2, h2⟩ := G.To
  obtain ⟨B3, T3, h3a, h3b, h3c⟩ := G.Ti
  refine ⟨G.par.wrote W (by omega) (nv _ hi.1), W.cell G.s0 (by omega) (nv _ hi.2.2.2.2.2.2), W.cell G.s1 (by omega) (nv _ hi.2.2.2.2.2.2), W.cell G.g0 (by omega) (nv _ hi.2.2.2.2.1), W.cell G.g1 (by omega) (nv _ hi.2.2.2.2.2.1),
    ⟨B1, T1.wrote W (by omega) (nv _ hi.2.1) (fun k hk => ⟨by have := G.r1 k hk; omega, nv k (G.r1 k hk).2.1⟩), h1⟩, ⟨B2, T2.wrote W (by omega) (nv _ hi.2.2.1) (fun k hk => ⟨by have := G.r2 k hk; omega, nv k (G.r2 k hk).2.1⟩), h2⟩,
    ⟨B3, T3.wrote W (by omega) (nv _ hi.2.2.2.1) h3, h3a, h3b, by have := W.size; omega⟩, G.lo, G.hi, G.ne, G.r1, G.r2, G.r3, by have := W.size; have := G.size; omega⟩

/-- A write to the innermost text. -/
theorem TwoG.inner {w w' : World} {keep : Bool} {N S p t po pi go gi sb B : Nat} {v1 v2 v3 v' : Value} {a b c c' : List Value} (G : TwoG w keep N S p t po pi go gi sb v1 v2 v3 a b c) (W : Wrote w w' pi v3 v') (T : Text w' B pi v' c' 3) (hB : N ≤ B) (hpB : pi < B) (hBs : B ≤ w.heap.size) :
    TwoG w' keep N S p t po pi go gi sb v1 v2 v' a b c' := by
  have hi := G.hi
  have ne := G.ne
  have sz := G.size
  obtain ⟨B1, T1, h1⟩ := G.Tt
  obtain ⟨B2, T2, h2⟩ := G.To
  have n3 : ∀ k, (k = p ∨ k = t ∨ k = po ∨ k = pi ∨ k = go ∨ k = gi ∨ k = sb) → v3.ownBlock ≠ some k := fun k hk e => by have := G.r3 k e; omega
  refine ⟨G.par.wrote W (by omega) (n3 _ (by simp)), W.cell G.s0 (by omega) (n3 _ (by simp)), W.cell G.s1 (by omega) (n3 _ (by simp)), W.cell G.g0 (by omega) (n3 _ (by simp)), W.cell G.g1 (by omega) (n3 _ (by simp)),
    ⟨B1, T1.wrote W (by omega) (n3 _ (by simp)) (fun k hk => ⟨(G.r1 k hk).2.2, fun e => (G.r3 k e).2.2.2.2.2.2.2.2.1 hk⟩), h1⟩, ⟨B2, T2.wrote W (by omega) (n3 _ (by simp)) (fun k hk => ⟨(G.r2 k hk).2.2, fun e => (G.r3 k e).2.2.2.2.2.2.2.2.2 hk⟩), h2⟩,
    ⟨B, T, hB, hpB, by have := W.size; omega⟩, G.lo, G.hi, G.ne, G.r1, G.r2, fun k hk => ?_, by have := W.size; omega⟩
  rcases W.lies k hk with h | h
  · exact G.r3 k h
  · have lo := G.lo
    exact ⟨by omega, by omega, by omega, by omega, by omega, by omega, by omega, by omega, fun e => by have := G.r1 k e; omega, fun e => by have := G.r2 k e; omega⟩

/-- What the constructor has laid, put together. -/
theorem two_final {w w1 w2 w3 : World} {keep : Bool} {v1 v2 v3 : Value} {a b c : List Value}
    (P0 : IsParser ((w.alloc (parts (.pointer none) (.slice none 0 0) 1)).alloc (parser keep (.pointer (some ⟨w.heap.size, 0, none⟩)) (.slice none 0 0))) (w.heap.size + 1) keep w.heap.size (.slice none 0 0))
    (F0 : ((w.alloc (parts (.pointer none) (.slice none 0 0) 1)).alloc (parser keep (.pointer (some ⟨w.heap.size, 0, none⟩)) (.slice none 0 0))).frozen? ⟨w.heap.size + 1, 14, none⟩ = false)
    (T1 : Text w1 (w.heap.size + 2) w.heap.size v1 a 1) (W1 : Wrote ((w.alloc (parts (.pointer none) (.slice none 0 0) 1)).alloc (parser keep (.pointer (some ⟨w.heap.size, 0, none⟩)) (.slice none 0 0))) w1 w.heap.size (.slice none 0 0) v1)
    (T2 : Text w2 (w1.heap.size + 2) w1.heap.size v2 b 2) (W2 : Wrote ((w1.alloc (parts (.pointer none) (.slice none 0 0) 2)).alloc (group 1 0 (.pointer (some ⟨w1.heap.size, 0, none⟩)))) w2 w1.heap.size (.slice none 0 0) v2)
    (T3 : Text w3 (w2.heap.size + 2) w2.heap.size v3 c 3) (W3 : Wrote ((w2.alloc (parts (.pointer none) (.slice none 0 0) 3)).alloc (group 2 1 (.pointer (some ⟨w2.heap.size, 0, none⟩)))) w3 w2.heap.size (.slice none 0 0) v3) :
    w3.cell? ⟨w.heap.size + 1, 14, none⟩ = some (.slice none 0 0) ∧ w3.frozen? ⟨w.heap.size + 1, 14, none⟩ = false ∧ w.heap.size + 1 < w3.heap.size ∧
    ∀ W, W = (w3.setCell ⟨w.heap.size + 1, 14, none⟩ (.slice (some ⟨w3.heap.size, 0, none⟩) 2 2)).alloc (.cells #[.pointer (some ⟨w1.heap.size + 1, 0, none⟩), .pointer (some ⟨w2.heap.size + 1, 0, none⟩)] 51) →
      Below w.heap.size w W ∧ TwoG W keep w.heap.size W.heap.size (w.heap.size + 1) w.heap.size w1.heap.size w2.heap.size (w1.heap.size + 1) (w2.heap.size + 1) w3.heap.size v1 v2 v3 a b c ∧ (∀ k, v3.ownBlock = some k → k < W.heap.size) := by
  have nn : ∀ k : Nat, (Value.slice none 0 0).ownBlock ≠ some k := fun k => by simp [Value.ownBlock]
  have z1 : w.heap.size + 2 ≤ w1.heap.size := by have := W1.size; simpa using this
  have z2 : w1.heap.size + 2 ≤ w2.heap.size := by have := W2.size; simpa using this
  have z3 : w2.heap.size + 2 ≤ w3.heap.size := by have := W3.size; simpa using this
  have l1 := T1.own.lt
  have l2 := T2.own.lt
  have l3 := T3.own.lt
  -- the parser's block, world by world
  have P1 := P0.wrote W1 (by omega) (nn _)
  have P2 := ((P1.alloc (parts (.pointer none) (.slice none 0 0) 2)).alloc (group 1 0 (.pointer (some ⟨w1.heap.size, 0, none⟩)))).wrote W2 (by omega) (nn _)
  have P3 := ((P2.alloc (parts (.pointer none) (.slice none 0 0) 3)).alloc (group 2 1 (.pointer (some ⟨w2.heap.size, 0, none⟩)))).wrote W3 (by omega) (nn _)
  have F1 : w1.frozen? ⟨w.heap.size + 1, 14, none⟩ = false := (W1.frozen (by simp) (by omega) (nn _)).trans F0
  have F2 : w2.frozen? ⟨w.heap.size + 1, 14, none⟩ = false := by
    rw [W2.frozen (by simp; omega) (by omega) (nn _), World.frozen?_alloc_past _ _ _ (by simp; omega), World.frozen?_alloc_past _ _ _ (by omega)]
    exact F1
  have F3 : w3.frozen? ⟨w.heap.size + 1, 14, none⟩ = false := by
    rw [W3.frozen (by simp; omega) (by omega) (nn _), World.frozen?_alloc_past _ _ _ (by simp; omega), World.frozen?_alloc_past _ _ _ (by omega)]
    exact F2
  -- the first text, the second text
  have T12 := ((T1.alloc (parts (.pointer none) (.slice none 0 0) 2)).alloc (group 1 0 (.pointer (some ⟨w1.heap.size, 0, none⟩)))).wrote W2 (by omega) (nn _) (fun k hk => ⟨by have := l1 k hk; omega, nn _⟩)
  have T13 := ((T12.alloc (parts (.pointer none) (.slice none 0 0) 3)).alloc (group 2 1 (.pointer (some ⟨w2.heap.size, 0, none⟩)))).wrote W3 (by omega) (nn _) (fun k hk => ⟨by have := l1 k hk; omega, nn _⟩)
  have T23 := ((T2.alloc (parts (.pointer none) (.slice none 0 0) 3)).alloc (group 2 1 (.pointer (some ⟨w2.heap.size, 0, none⟩)))).wrote W3 (by omega) (nn _) (fun k hk => ⟨by have := l2 k hk; omega, nn _⟩)
  -- the groups
  have g0 : ((w1.alloc (parts (.pointer none) (.slice none 0 0) 2)).alloc (group 1 0 (.pointer (some ⟨w1.heap.size, 0, none⟩)))).cell? ⟨w1.heap.size + 1, 8, none⟩ = some (.pointer (some ⟨w1.heap.size, 0, none⟩)) := by simp [group, parts]
  have g02 := W2.cell g0 (by omega) (nn _)
  have g03 : w3.cell? ⟨w1.heap.size + 1, 8, none⟩ = some (.pointer (some ⟨w1.heap.size, 0, none⟩)) := by
    refine W3.cell ?_ (by omega) (nn _)
    rw [World.cell?_alloc_past _ _ _ (by simp; omega), World.cell?_alloc_past _ _ _ (by omega)]
    exact g02
  have g1 : ((w2.alloc (parts (.pointer none) (.slice none 0 0) 3)).alloc (group 2 1 (.pointer (some ⟨w2.heap.size, 0, none⟩)))).cell? ⟨w2.heap.size + 1, 8, none⟩ = some (.pointer (some ⟨w2.heap.size, 0, none⟩)) := by simp [group, parts]
  have g13 := W3.cell g1 (by omega) (nn _)
  refine ⟨P3.gs, F3, by omega, fun W hW => ?_⟩
  have hWs : W.heap.size = w3.heap.size + 1 := by subst hW; simp
  have cW : ∀ j o x, j ≠ w.heap.size + 1 → j < w3.heap.size → w3.cell? ⟨j, o, none⟩ = some x → W.cell? ⟨j, o, none⟩ = some x := fun j o x hj hl hx => by
    subst hW
    rw [World.cell?_alloc_past _ _ _ (by simpa using hl), World.cell?_setCell_other _ _ _ _ (by intro e; cases e; exact hj rfl)]
    exact hx
  have tW : ∀ (B b : Nat) (v : Value) (bs : List Value) (d : Int), Text w3 B b v bs d → b ≠ w.heap.size + 1 → (∀ k, v.ownBlock = some k → k ≠ w.heap.size + 1) → Text W B b v bs d := fun B b v bs d T hb hk => by
    subst hW
    exact (T.set _ _ hb hk).alloc _
  refine ⟨?_, ⟨⟨?_, ?_, ?_⟩, ?_, ?_, cW _ _ _ (by omega) (by omega) g03, cW _ _ _ (by omega) (by omega) g13, ⟨w.heap.size + 2, tW _ _ _ _ _ T13 (by omega) (fun k hk => by have := l1 k hk; omega), by omega⟩, ⟨w1.heap.size + 2, tW _ _ _ _ _ T23 (by omega) (fun k hk => by have := l2 k hk; omega), by omega⟩,
    ⟨w2.heap.size + 2, tW _ _ _ _ _ T3 (by omega) (fun k hk => by have := l3 k hk; omega), by omega, by omega, by omega⟩, by omega, by omega, by omega, fun k hk => by have := l1 k hk; omega, fun k hk => by have := l2 k hk; omega, fun k hk => ?_, Nat.le_refl _⟩, fun k hk => by have := l3 k hk; omega⟩
  · have b0 : Below w.heap.size w ((w.alloc (parts (.pointer none) (.slice none 0 0) 1)).alloc (parser keep (.pointer (some ⟨w.heap.size, 0, none⟩)) (.slice none 0 0))) := ((Below.refl _ w).alloc (Nat.le_refl _) _).alloc (by simp) _
    have b1 := b0.trans (W1.below w.heap.size (by simp; omega) (Nat.le_refl _) (fun k hk => absurd hk (nn k)))
    have b2 := ((b1.alloc (by omega) (parts (.pointer none) (.slice none 0 0) 2)).alloc (by simp; omega) (group 1 0 (.pointer (some ⟨w1.heap.size, 0, none⟩)))).trans (W2.below w.heap.size (by simp; omega) (by omega) (fun k hk => absurd hk (nn k)))
    have b3 := ((b2.alloc (by omega) (parts (.pointer none) (.slice none 0 0) 3)).alloc (by simp; omega) (group 2 1 (.pointer (some ⟨w2.heap.size, 0, none⟩)))).trans (W3.below w.heap.size (by simp; omega) (by omega) (fun k hk => absurd hk (nn k)))
    subst hW
    exact (b3.setCell (by simp) _).alloc (by simp; omega) _
  · subst hW
    rw [World.cell?_alloc_past _ _ _ (by simp; omega), World.cell?_setCell_other _ _ _ _ (by intro e; cases e)]
    exact P3.keep
  · subst hW
    rw [World.cell?_alloc_past _ _ _ (by simp; omega), World.cell?_setCell_other _ _ _ _ (by intro e; cases e)]
    exact P3.top
  · subst hW
    rw [World.cell?_alloc_past _ _ _ (by simp; omega)]
    exact World.cell?_setCell_same _ _ _ P3.gs
  · subst hW
    exact World.cell?_alloc_at _ _ _ _ (by simp)
  · subst hW
    exact World.cell?_alloc_at _ _ _ _ (by simp)
  · have h3' := l3 k hk
    exact ⟨by omega, by omega, by omega, by omega, by omega, by omega, by omega, by omega, fun e => by have := l1 k e; have := T1.own.lt k e; omega, fun e => by have := l2 k e; omega⟩

set_option maxHeartbeats 2000000 in
set_option maxRecDepth 100000 in
theorem new5 (keep : Bool) (s1 s2 s3 : ByteArray) (w : World) (h1 : s1.size ≤ 1048576) (h2 : s2.size ≤ 1048576) (h3 : s3.size ≤ 1048576) :
    Calls Try.prog 5 #[.bool keep, .string s1, .string s2, .string s3] w fun e w' => ∃ p, e = .returned (.pointer (some ⟨p, 0, none⟩)) ∧ Below w.heap.size w w' ∧
      ∃ t po pi go gi sb v1 v2 v3, TwoG w' keep w.heap.size w'.heap.size p t po pi go gi sb v1 v2 v3 (Lib.strCells s1) (Lib.strCells s2) (Lib.strCells s3) ∧ (∀ k, v3.ownBlock = some k → k < w'.heap.size) := by
  have T0 : Text ((w.alloc (parts (.pointer none) (.slice none 0 0) 1)).alloc (parser keep (.pointer (some ⟨w.heap.size, 0, none⟩)) (.slice none 0 0))) (w.heap.size + 2) w.heap.size (.slice none 0 0) [] 1 := (text_new w 1 _).alloc _
  have P0 : IsParser ((w.alloc (parts (.pointer none) (.slice none 0 0) 1)).alloc (parser keep (.pointer (some ⟨w.heap.size, 0, none⟩)) (.slice none 0 0))) (w.heap.size + 1) keep w.heap.size (.slice none 0 0) :=
    ⟨by simp [parser, parts], by simp [parser, parts], by simp [parser, parts]⟩
  have F0 : ((w.alloc (parts (.pointer none) (.slice none 0 0) 1)).alloc (parser keep (.pointer (some ⟨w.heap.size, 0, none⟩)) (.slice none 0 0))).frozen? ⟨w.heap.size + 1, 14, none⟩ = false := by simp [parser, parts]
  have HT0 := Lib.hid T0; have HP0 := Lib.hid P0; have HF0 := Lib.hid F0
  clear T0 P0 F0
  go_enter Try.func5, Try.ntmps5
  go_wp2_with fail
  refine (write_any (w.heap.size + 2) w.heap.size (.slice none 0 0) [] s1 1 _ HT0.out (by simp; omega) (by simp) (by omega)).mono ?_
  rintro e w1 ⟨k1, rfl, v1, T1, W1⟩
  have HT2 : Hid (Text ((w1.alloc (parts (.pointer none) (.slice none 0 0) 2)).alloc (group 1 0 (.pointer (some ⟨w1.heap.size, 0, none⟩)))) (w1.heap.size + 2) w1.heap.size (.slice none 0 0) [] 2) := (text_new w1 2 _).alloc _
  have HT1 := Lib.hid T1; have HW1 := Lib.hid W1
  have g9 : w1.cell? ⟨w.heap.size + 1, 13, none⟩ = some (.pointer (some ⟨w.heap.size, 0, none⟩)) := W1.cell HP0.out.top (by omega) (by simp [Value.ownBlock])
  clear T1 W1 HT0
  go_wp2_with fail
  refine (write_any (w1.heap.size + 2) w1.heap.size (.slice none 0 0) [] s2 2 _ HT2.out (by simp; omega) (by simp) (by omega)).mono ?_
  rintro e w2 ⟨k2, rfl, v2, T2, W2⟩
  have HT3 : Hid (Text ((w2.alloc (parts (.pointer none) (.slice none 0 0) 3)).alloc (group 2 1 (.pointer (some ⟨w2.heap.size, 0, none⟩)))) (w2.heap.size + 2) w2.heap.size (.slice none 0 0) [] 3) := (text_new w2 3 _).alloc _
  have HT2' := Lib.hid T2; have HW2 := Lib.hid W2
  clear T2 W2 HT2 g9
  go_wp2_with fail
  refine (write_any (w2.heap.size + 2) w2.heap.size (.slice none 0 0) [] s3 3 _ HT3.out (by simp; omega) (by simp) (by omega)).mono ?_
  rintro e w3 ⟨k3, rfl, v3, T3, W3⟩
  obtain ⟨f1, f2, f3, fin⟩ := two_final HP0.out HF0.out (by simpa using HT1.out) HW1.out (by simpa using HT2'.out) HW2.out (by simpa using T3) W3
  have FIN := Lib.hid (fin _ rfl)
  clear fin HP0 HF0 HT1 HW1 HT2' HW2 T3 W3 HT3
  go_wp2
  go_ret
  exact ⟨_, rfl, FIN.out.1, _, _, _, _, _, _, _, _, _, FIN.out.2⟩
end Go.Proofs.Qxb6616971a
