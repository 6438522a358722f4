/-
  The two constructors: what they lay in new memory.
-/
import Derived.Test.Qxb6616971aString
namespace Go.Proofs.Qxb6616971a
open Go.RowKit

/-- A text elsewhere stays. -/
theorem Text.wrote {w w' : World} {B2 b2 b : Nat} {v v' v2 : Value} {bs2 : List Value} {d2 : Int} (T : Text w B2 b2 v2 bs2 d2) (W : Wrote w w' b v v') (hb : b2 ≠ b) (hv : v.ownBlock ≠ some b2) (hr : ∀ k, v2.ownBlock = some k → k ≠ b ∧ v.ownBlock ≠ some k) :
    Text w' B2 b2 v2 bs2 d2 := by
  obtain ⟨⟨p, h1, h2⟩, own, nil⟩ := T
  have hlt := own.lt
  refine ⟨⟨p, (W.block b2 (lt_of_block h1) hb hv).trans h1, h2⟩, ⟨own.1, ?_⟩, nil⟩
  rcases own.2 with h | ⟨g, cap, cur, e, r1, r2, r3⟩
  · exact Or.inl h
  · have hg : v2.ownBlock = some g := by rw [e]; rfl
    exact Or.inr ⟨g, cap, cur, e, r1, (W.block g (hlt g hg).2 (hr g hg).1 (hr g hg).2).trans r2, r3⟩

theorem Text.alloc {w : World} {B b : Nat} {v : Value} {bs : List Value} {d : Int} (T : Text w B b v bs d) (o : Obj) : Text (w.alloc o) B b v bs d := by
  obtain ⟨⟨p, h1, h2⟩, own, nil⟩ := T
  exact ⟨⟨p, (Below.heap_alloc _ _ _ (lt_of_block h1)).trans h1, h2⟩, own.alloc o, nil⟩

theorem Text.set {w : World} {B b : Nat} {v : Value} {bs : List Value} {d : Int} (T : Text w B b v bs d) (a : Addr) (x : Value) (hb : b ≠ a.block) (hr : ∀ k, v.ownBlock = some k → k ≠ a.block) : Text (w.setCell a x) B b v bs d := by
  obtain ⟨⟨p, h1, h2⟩, own, nil⟩ := T
  exact ⟨⟨p, (Below.heap_setCell _ _ _ _ hb).trans h1, h2⟩, ownsRow_setCell_other own (fun e => hr _ e rfl) x, nil⟩

theorem Wrote.below {w w' : World} {b : Nat} {v v' : Value} (W : Wrote w w' b v v') (N : Nat) (hN : N ≤ w.heap.size) (hb : N ≤ b) (hv : ∀ k, v.ownBlock = some k → N ≤ k) : Below N w w' :=
  ⟨W.os, W.tape, W.output, W.size, fun k hk => W.block k (by omega) (by omega) (fun e => by have := hv k e; omega)⟩

theorem Wrote.cell {w w' : World} {b : Nat} {v v' : Value} (W : Wrote w w' b v v') {j o : Nat} {x : Value} (h : w.cell? ⟨j, o, none⟩ = some x) (hb : j ≠ b) (hv : v.ownBlock ≠ some j) : w'.cell? ⟨j, o, none⟩ = some x := by
  rw [World.cell?_of_block (w := w) (W.block j (by simpa using World.block_lt_of_cell? w _ h) hb hv)]
  exact h

theorem Wrote.frozen {w w' : World} {b : Nat} {v v' : Value} (W : Wrote w w' b v v') {j o : Nat} (hj : j < w.heap.size) (hb : j ≠ b) (hv : v.ownBlock ≠ some j) : w'.frozen? ⟨j, o, none⟩ = w.frozen? ⟨j, o, none⟩ :=
  World.frozen?_of_block (w := w) (W.block j hj hb hv)

theorem text_new (w : World) (d : Int) (B : Nat) : Text (w.alloc (parts (.pointer none) (.slice none 0 0) d)) B w.heap.size (.slice none 0 0) [] d :=
  ⟨⟨.pointer none, heap_alloc_new _ _, Or.inl rfl⟩, World.ownsRow_nil _ _ _ _, fun _ => rfl⟩

/-- The parser's block. -/
def parser (keep : Bool) (top gs : Value) : Obj := .cells #[.pointer none, .string ⟨#[]⟩, .string ⟨#[]⟩, .int .i64 0, .bool false, .int .i64 0, .int .i64 0, .bool false, .slice none 0 0, .string ⟨#[]⟩, .string ⟨#[]⟩, .string ⟨#[]⟩, .bool keep, top, gs, .map none, .map none, .pointer none] 46 (0, 0)
/-- A group's block. -/
def group (d i : Int) (ps : Value) : Obj := .cells #[.string ⟨#[]⟩, .string ⟨#[]⟩, .int .i64 0, .int .i64 0, .int .i64 d, .int .i64 i, .slice none 0 0, .pointer none, ps] 57 (0, 0)

/-- What a parser's block shows. -/
structure IsParser (w : World) (p : Nat) (keep : Bool) (top : Nat) (gs : Value) : Prop where
  keep : w.cell? ⟨p, 12, none⟩ = some (.bool keep)
  top : w.cell? ⟨p, 13, none⟩ = some (.pointer (some ⟨top, 0, none⟩))
  gs : w.cell? ⟨p, 14, none⟩ = some gs

theorem IsParser.wrote {w w' : World} {p top b : Nat} {keep : Bool} {gs v v' : Value} (h : IsParser w p keep top gs) (W : Wrote w w' b v v') (hb : p ≠ b) (hv : v.ownBlock ≠ some p) : IsParser w' p keep top gs :=
  ⟨W.cell h.keep hb hv, W.cell h.top hb hv, W.cell h.gs hb hv⟩
theorem IsParser.alloc {w : World} {p top : Nat} {keep : Bool} {gs : Value} (h : IsParser w p keep top gs) (o : Obj) : IsParser (w.alloc o) p keep top gs := by
  have hp : p < w.heap.size := by simpa using World.block_lt_of_cell? w _ h.keep
  exact ⟨by rw [World.cell?_alloc_past _ _ _ hp]; exact h.keep, by rw [World.cell?_alloc_past _ _ _ hp]; exact h.top, by rw [World.cell?_alloc_past _ _ _ hp]; exact h.gs⟩

set_option maxHeartbeats 1000000 in
set_option maxRecDepth 100000 in
theorem new6 (keep : Bool) (s : ByteArray) (w : World) (hs : s.size ≤ 1048576) :
    Calls Try.prog 6 #[.bool keep, .string s] w fun e w' => e = .returned (.pointer (some ⟨w.heap.size + 1, 0, none⟩)) ∧ Below w.heap.size w w' ∧ w.heap.size + 2 ≤ w'.heap.size ∧ IsParser w' (w.heap.size + 1) keep w.heap.size (.slice none 0 0) ∧
      ∃ v, Text w' (w.heap.size + 2) w.heap.size v (Lib.strCells s) 1 := by
  have T0 : Text ((w.alloc (parts (.pointer none) (.slice none 0 0) 1)).alloc (parser keep (.pointer (some ⟨w.heap.size, 0, none⟩)) (.slice none 0 0))) (w.heap.size + 2) w.heap.size (.slice none 0 0) [] 1 := (text_new w 1 _).alloc _
  have P0 : IsParser ((w.alloc (parts (.pointer none) (.slice none 0 0) 1)).alloc (parser keep (.pointer (some ⟨w.heap.size, 0, none⟩)) (.slice none 0 0))) (w.heap.size + 1) keep w.heap.size (.slice none 0 0) :=
    ⟨by simp [parser, parts], by simp [parser, parts], by simp [parser, parts]⟩
  go_enter Try.func6, Try.ntmps6
  go_wp2_with fail
  refine (write_any (w.heap.size + 2) w.heap.size (.slice none 0 0) [] s 1 _ T0 (by simp; omega) (by simp) (by omega)).mono ?_
  rintro e w1 ⟨k, rfl, v, T1, W1⟩
  have hsz : w.heap.size + 2 ≤ w1.heap.size := by have := W1.size; simpa using this
  have FP := Lib.hid (P0.wrote W1 (by omega) (by simp [Value.ownBlock]))
  have FB : Hid (Below w.heap.size w w1) := (((Below.refl _ w).alloc (Nat.le_refl _) (parts (.pointer none) (.slice none 0 0) 1)).alloc (by simp) (parser keep (.pointer (some ⟨w.heap.size, 0, none⟩)) (.slice none 0 0))).trans (W1.below _ (by simp; omega) (Nat.le_refl _) (fun k hk => by simp [Value.ownBlock] at hk))
  have FT := Lib.hid T1
  clear T0 P0 T1 W1
  go_wp2
  go_ret
  exact ⟨rfl, FB.out, hsz, FP.out, v, by simpa using FT.out⟩
end Go.Proofs.Qxb6616971a
