/-
  'parts', 'after', 'ZZmeepoAfter', and the readers of the texts.
-/
import Derived.Test.Qxb6616971aTwo
import Derived.Deep.RegionWith
namespace Go.Proofs.Qxb6616971a
open Go.RowKit

set_option maxHeartbeats 400000 in
theorem parts_two (p sb gi pi : Nat) (w : World) (c0 : w.cell? ⟨p, 14, none⟩ = some (.slice (some ⟨sb, 0, none⟩) 2 2)) (c1 : w.cell? ⟨sb, 1, none⟩ = some (.pointer (some ⟨gi, 0, none⟩))) (c2 : w.cell? ⟨gi, 8, none⟩ = some (.pointer (some ⟨pi, 0, none⟩))) :
    Calls Try.prog 14 #[.pointer (some ⟨p, 0, none⟩)] w fun e w' => e = .returned (.pointer (some ⟨pi, 0, none⟩)) ∧ w' = w := by
  go_enter Try.func14, Try.ntmps14
  go_wp2
  go_ret
  exact ⟨rfl, rfl⟩

set_option maxHeartbeats 400000 in
theorem parts_top (p t : Nat) (w : World) (c0 : w.cell? ⟨p, 14, none⟩ = some (.slice none 0 0)) (c1 : w.cell? ⟨p, 13, none⟩ = some (.pointer (some ⟨t, 0, none⟩))) :
    Calls Try.prog 14 #[.pointer (some ⟨p, 0, none⟩)] w fun e w' => e = .returned (.pointer (some ⟨t, 0, none⟩)) ∧ w' = w := by
  go_enter Try.func14, Try.ntmps14
  go_wp2
  go_ret
  exact ⟨rfl, rfl⟩

theorem Text.drew {w : World} {B b : Nat} {v : Value} {bs : List Value} {d : Int} (T : Text w B b v bs d) : Text w.drew B b v bs d := ⟨T.blk, T.own, T.nil⟩
theorem Wrote.of_drew {w w' : World} {b : Nat} {v v' : Value} (W : Wrote w.drew w' b v v') : Wrote w w' b v v' := ⟨W.os, W.tape, W.output, W.size, W.block, W.lies⟩

set_option maxHeartbeats 400000 in
theorem after_no (p q : Nat) (w : World) (c0 : w.cell? ⟨p, 12, none⟩ = some (.bool false)) :
    Calls Try.prog 11 #[.pointer (some ⟨p, 0, none⟩), .pointer (some ⟨q, 0, none⟩)] w fun e w' => e = .returned (.tuple #[]) ∧ w' = w := by
  go_enter Try.func11, Try.ntmps11
  go_wp2
  go_end0
  exact ⟨rfl, rfl⟩

set_option maxHeartbeats 1000000 in
set_option maxRecDepth 100000 in
theorem after_yes (p q b B : Nat) (s : ByteArray) (v : Value) (bs : List Value) (d : Int) (w : World) (c0 : w.cell? ⟨p, 12, none⟩ = some (.bool true)) (cq : w.cell? ⟨q, 8, none⟩ = some (.string s))
    (PC : Hid (∀ W, (∀ a, W.cell? a = w.cell? a) → Calls Try.prog 14 #[.pointer (some ⟨p, 0, none⟩)] W fun e w' => e = .returned (.pointer (some ⟨b, 0, none⟩)) ∧ w' = W)) (T : Text w B b v bs d) (hlen : bs.length + s.size ≤ 140737488355328) (hB : B ≤ w.heap.size) (hbB : b < B) :
    Calls Try.prog 11 #[.pointer (some ⟨p, 0, none⟩), .pointer (some ⟨q, 0, none⟩)] w fun e w' => e = .returned (.tuple #[]) ∧ ∃ v', Text w' B b v' (bs ++ Lib.strCells s) d ∧ Wrote w w' b v v' := by
  go_enter Try.func11, Try.ntmps11
  go_wp2_with fail
  go_region_with (first | (go_at_call 14; refine (PC.out _ (by exact fun _ => rfl)).mono ?_; rintro e w' ⟨rfl, hw⟩; subst w') | (go_at_call 10; refine (write_any B b v bs s d _ T.drew hlen hB hbB).mono ?_; rintro e w' ⟨n, rfl, v', T', W'⟩))
  all_goals
    go_wp2
    go_end0
    exact ⟨rfl, v', T', W'.of_drew⟩

/-- The directive's block. -/
def dirv (s : ByteArray) : Obj := .cells #[.int .i64 0, .int .i64 0, .string ⟨#[]⟩, .int .i64 0, .string ⟨#[]⟩, .string ⟨#[]⟩, .string ⟨#[]⟩, .string ⟨#[]⟩, .string s, .bool false, .nilIface] 61 (0, 0)

theorem cell_past {w : World} {o : Obj} {b k : Nat} {x : Value} (h : w.cell? ⟨b, k, none⟩ = some x) : (w.alloc o).cell? ⟨b, k, none⟩ = some x := by
  rw [World.cell?_alloc_past _ _ _ (by simpa using World.block_lt_of_cell? w _ h)]
  exact h

theorem TwoG.alloc {w : World} {keep : Bool} {N S p t po pi go gi sb : Nat} {v1 v2 v3 : Value} {a b c : List Value} (G : TwoG w keep N S p t po pi go gi sb v1 v2 v3 a b c) (o : Obj) : TwoG (w.alloc o) keep N S p t po pi go gi sb v1 v2 v3 a b c := by
  obtain ⟨B1, T1, h1⟩ := G.Tt
  obtain ⟨B2, T2, h2⟩ := G.To
  obtain ⟨B3, T3, h3, h4, h5⟩ := G.Ti
  exact ⟨G.par.alloc o, cell_past G.s0, cell_past G.s1, cell_past G.g0, cell_past G.g1, ⟨B1, T1.alloc o, h1⟩, ⟨B2, T2.alloc o, h2⟩, ⟨B3, T3.alloc o, h3, h4, by simp; omega⟩, G.lo, G.hi, G.ne, G.r1, G.r2, G.r3, by have := G.size; simp; omega⟩

set_option maxHeartbeats 1000000 in
set_option maxRecDepth 100000 in
/-- 'ZZmeepoAfter' at the parser in two groups. -/
theorem zz_two (w : World) (keep : Bool) (N S p t po pi go gi sb : Nat) (v1 v2 v3 : Value) (a b c : List Value) (s : ByteArray) (G : TwoG w keep N S p t po pi go gi sb v1 v2 v3 a b c) (hN : N ≤ w.heap.size) (hlen : c.length + s.size ≤ 140737488355328) :
    Calls Try.prog 7 #[.pointer (some ⟨p, 0, none⟩), .string s] w fun e w' => e = .returned (.tuple #[]) ∧ Below N w w' ∧ ∃ v3', TwoG w' keep N S p t po pi go gi sb v1 v2 v3' a b (if keep then c ++ Lib.strCells s else c) ∧
      (∀ k, v3'.ownBlock = some k → v3.ownBlock = some k ∨ w.heap.size ≤ k) ∧ (∀ j, j < w.heap.size → j ≠ pi → v3.ownBlock ≠ some j → w'.heap[j]? = w.heap[j]?) := by
  have G1 := Lib.hid (G.alloc (dirv s))
  have hc : (w.alloc (dirv s)).cell? ⟨w.heap.size, 8, none⟩ = some (.string s) := World.cell?_alloc_at _ _ _ _ rfl
  cases keep
  · have A := Lib.hid (after_no p w.heap.size _ G1.out.par.keep)
    go_enter Try.func7, Try.ntmps7
    go_wp2_with fail
    refine A.out.mono ?_
    rintro e w' ⟨rfl, hw⟩
    subst w'
    go_wp2
    go_end0
    exact ⟨rfl, (Below.refl _ _).alloc hN _, v3, G1.out, fun k hk => Or.inl hk, fun j hj _ _ => Below.heap_alloc _ _ _ hj⟩
  · obtain ⟨B, T, h1, h2, h3⟩ := G1.out.Ti
    have PC : Hid (∀ W, (∀ x, W.cell? x = (w.alloc (dirv s)).cell? x) → Calls Try.prog 14 #[.pointer (some ⟨p, 0, none⟩)] W fun e w' => e = .returned (.pointer (some ⟨pi, 0, none⟩)) ∧ w' = W) := fun W hW =>
      parts_two p sb gi pi W (by rw [hW]; exact G1.out.par.gs) (by rw [hW]; exact G1.out.s1) (by rw [hW]; exact G1.out.g1)
    have A := Lib.hid (after_yes p w.heap.size pi B s v3 c 3 _ G1.out.par.keep hc PC T hlen h3 h2)
    clear hc PC
    go_enter Try.func7, Try.ntmps7
    go_wp2_with fail
    refine A.out.mono ?_
    rintro e w1 ⟨rfl, v', T', W'⟩
    have FG := Lib.hid (G1.out.inner W' T' h1 h2 h3)
    have FB : Hid (Below N w w1) := ((Below.refl _ _).alloc hN (dirv s)).trans (W'.below N (by simp; omega) G.lo.2.2.2.1 (fun k hk => (G.r3 k hk).1))
    have FL : Hid (∀ k, v'.ownBlock = some k → v3.ownBlock = some k ∨ w.heap.size ≤ k) := fun k hk => (W'.lies k hk).imp id (fun h => by simp at h; omega)
    have FO : Hid (∀ j, j < w.heap.size → j ≠ pi → v3.ownBlock ≠ some j → w1.heap[j]? = w.heap[j]?) := fun j hj h1 h2 => (W'.block j (by simp; omega) h1 h2).trans (Below.heap_alloc _ _ _ hj)
    clear T' W' T G G1 A
    go_wp2
    go_end0
    exact ⟨rfl, FB.out, v', FG.out, FL.out, FO.out⟩

set_option maxHeartbeats 1000000 in
set_option maxRecDepth 100000 in
/-- 'ZZmeepoAfter' at a parser with no open group. -/
theorem zz_top (w : World) (keep : Bool) (N B p t : Nat) (v : Value) (a : List Value) (s : ByteArray) (P : IsParser w p keep t (.slice none 0 0)) (T : Text w B t v a 1) (hN : N ≤ w.heap.size) (hNt : N ≤ t) (htB : t < B) (hB : B ≤ w.heap.size) (hpt : p ≠ t) (hv : ∀ k, v.ownBlock = some k → N ≤ k ∧ k ≠ p) (hlen : a.length + s.size ≤ 140737488355328) :
    Calls Try.prog 7 #[.pointer (some ⟨p, 0, none⟩), .string s] w fun e w' => e = .returned (.tuple #[]) ∧ Below N w w' ∧ (∃ v', Text w' B t v' (if keep then a ++ Lib.strCells s else a) 1) ∧ IsParser w' p keep t (.slice none 0 0) ∧
      (∀ j, j < w.heap.size → j ≠ t → v.ownBlock ≠ some j → w'.heap[j]? = w.heap[j]?) := by
  have P1 := Lib.hid (P.alloc (dirv s))
  have T1 := T.alloc (dirv s)
  have hc : (w.alloc (dirv s)).cell? ⟨w.heap.size, 8, none⟩ = some (.string s) := World.cell?_alloc_at _ _ _ _ rfl
  cases keep
  · have A := Lib.hid (after_no p w.heap.size _ P1.out.keep)
    have HT := Lib.hid T1
    clear T1 T P
    go_enter Try.func7, Try.ntmps7
    go_wp2_with fail
    refine A.out.mono ?_
    rintro e w' ⟨rfl, hw⟩
    subst w'
    go_wp2
    go_end0
    exact ⟨rfl, (Below.refl _ _).alloc hN _, ⟨v, HT.out⟩, P1.out, fun j hj _ _ => Below.heap_alloc _ _ _ hj⟩
  · have PC : Hid (∀ W, (∀ x, W.cell? x = (w.alloc (dirv s)).cell? x) → Calls Try.prog 14 #[.pointer (some ⟨p, 0, none⟩)] W fun e w' => e = .returned (.pointer (some ⟨t, 0, none⟩)) ∧ w' = W) := fun W hW =>
      parts_top p t W (by rw [hW]; exact P1.out.gs) (by rw [hW]; exact P1.out.top)
    have A := Lib.hid (after_yes p w.heap.size t B s v a 1 _ P1.out.keep hc PC T1 hlen (by simp; omega) htB)
    clear hc PC
    go_enter Try.func7, Try.ntmps7
    go_wp2_with fail
    refine A.out.mono ?_
    rintro e w1 ⟨rfl, v', T', W'⟩
    have FT := Lib.hid T'
    have FP := Lib.hid (P1.out.wrote W' hpt (fun e => (hv p e).2 rfl))
    have FB : Hid (Below N w w1) := ((Below.refl _ _).alloc hN (dirv s)).trans (W'.below N (by simp; omega) hNt (fun k hk => (hv k hk).1))
    have FO : Hid (∀ j, j < w.heap.size → j ≠ t → v.ownBlock ≠ some j → w1.heap[j]? = w.heap[j]?) := fun j hj h1 h2 => (W'.block j (by simp; omega) h1 h2).trans (Below.heap_alloc _ _ _ hj)
    clear T' W' T P P1 A T1
    go_wp2
    go_end0
    exact ⟨rfl, FB.out, ⟨v', FT.out⟩, FP.out, FO.out⟩

/-- A frame, said as a write. -/
theorem wrote_of {w w' : World} {N b : Nat} {v : Value} (hb : Below N w w') (h : ∀ j, j < w.heap.size → j ≠ b → v.ownBlock ≠ some j → w'.heap[j]? = w.heap[j]?) : Wrote w w' b v (.slice none 0 0) :=
  ⟨hb.os, hb.tape, hb.output, hb.size, h, fun k hk => by simp [Value.ownBlock] at hk⟩

set_option maxHeartbeats 400000 in
set_option maxRecDepth 100000 in
theorem topText (N p t : Nat) (l : List UInt8) (w : World) (c0 : w.cell? ⟨p, 13, none⟩ = some (.pointer (some ⟨t, 0, none⟩))) (R : Reads w N t l) :
    Calls Try.prog 9 #[.pointer (some ⟨p, 0, none⟩)] w fun e w' => e = .returned (.string ⟨l.toArray⟩) ∧ Looked N w w' := by
  have S := Lib.hid (string_any N t l w R)
  clear R
  go_enter Try.func9, Try.ntmps9
  go_wp2_with fail
  refine S.out.mono ?_
  rintro e w1 ⟨rfl, L⟩
  have HL := Lib.hid L
  clear L S
  go_wp2
  go_ret
  exact ⟨rfl, HL.out⟩

set_option maxHeartbeats 400000 in
set_option maxRecDepth 100000 in
theorem groupText (N p sb g q : Nat) (i : Nat) (hi : i < 2) (l : List UInt8) (w : World) (c0 : w.cell? ⟨p, 14, none⟩ = some (.slice (some ⟨sb, 0, none⟩) 2 2)) (c1 : w.cell? ⟨sb, i, none⟩ = some (.pointer (some ⟨g, 0, none⟩))) (c2 : w.cell? ⟨g, 8, none⟩ = some (.pointer (some ⟨q, 0, none⟩))) (R : Reads w N q l) :
    Calls Try.prog 8 #[.pointer (some ⟨p, 0, none⟩), .int .i64 (i : Int)] w fun e w' => e = .returned (.string ⟨l.toArray⟩) ∧ Looked N w w' := by
  have S := Lib.hid (string_any N q l w R)
  clear R
  have hi' : (i : Int) < 2 := by omega
  go_enter Try.func8, Try.ntmps8
  go_wp2_with fail
  refine S.out.mono ?_
  rintro e w1 ⟨rfl, L⟩
  have HL := Lib.hid L
  clear L S
  go_wp2
  go_ret
  exact ⟨rfl, HL.out⟩
end Go.Proofs.Qxb6616971a
