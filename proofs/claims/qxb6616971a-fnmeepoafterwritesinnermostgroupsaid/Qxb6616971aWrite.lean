/-
  'WriteString' and 'String' of the builder in a meepoParts.
-/
import Derived.Test.Qxb6616971aBuilder
namespace Go.Proofs.Qxb6616971a
open Go.RowKit

/-- What a write leaves: blocks that were there are as they were, but for b and the buffer's row; the new row is the old one or new. -/
structure Wrote (w w' : World) (b : Nat) (v v' : Value) : Prop where
  os : w'.os = w.os
  tape : w'.tape = w.tape
  output : w'.output = w.output
  size : w.heap.size ≤ w'.heap.size
  block : ∀ j, j < w.heap.size → j ≠ b → v.ownBlock ≠ some j → w'.heap[j]? = w.heap[j]?
  lies : ∀ k, v'.ownBlock = some k → v.ownBlock = some k ∨ w.heap.size ≤ k

theorem heap_set {w : World} {b o : Nat} {cs : Array Value} {t : TypeId} {v : Value} (h : w.heap[b]? = some (.cells cs t (0, 0))) : (w.setCell ⟨b, o, none⟩ v).heap[b]? = some (.cells (cs.setIfInBounds o v) t (0, 0)) := by
  simp [World.setCell, Array.getElem?_modify, h]

/-- The world between copyCheck and the append. -/
theorem write_mid {w w1 : World} {B b : Nat} {v : Value} {bs : List Value} {s : ByteArray} {d : Int} (hb1 : w1.heap[b]? = some (parts (.pointer (some ⟨b, 1, none⟩)) v d)) (hw1 : w1 = w ∨ w1 = w.setCell ⟨b, 1, none⟩ (.pointer (some ⟨b, 1, none⟩)))
    (own : w.ownsRow B 5 1 v bs.length bs) (nil : bs = [] → v = .slice none 0 0) (hbB : b < B) {v' : Value} {w2 : World}
    (h1 : w2.ownsRow B 5 1 v' (bs.length + s.size) (bs ++ Lib.strCells s)) (h2 : w1.grownBy w2 v.ownBlock) (h3 : v' = .slice none 0 0 ↔ v = .slice none 0 0 ∧ s.size = 0) (h4 : ∀ k, v'.ownBlock = some k → v.ownBlock = some k ∨ w1.heap.size ≤ k) :
    w2.heap[b]? = some (parts (.pointer (some ⟨b, 1, none⟩)) v d) ∧ Text (w2.setCell ⟨b, 2, none⟩ v') B b v' (bs ++ Lib.strCells s) d ∧ Wrote w (w2.setCell ⟨b, 2, none⟩ v') b v v' := by
  have hne : v.ownBlock ≠ some b := fun e => by have := (own.lt b e).1; omega
  have hsz : w1.heap.size = w.heap.size := by rcases hw1 with rfl | rfl <;> simp
  have hblk : w2.heap[b]? = some (parts (.pointer (some ⟨b, 1, none⟩)) v d) := by rw [h2.block b (lt_of_block hb1) (fun e => hne e.symm)]; exact hb1
  refine ⟨hblk, ⟨⟨_, ?_, Or.inr rfl⟩, ?_, ?_⟩, ?_⟩
  · rw [parts] at hblk
    rw [heap_set hblk]
    rfl
  · have e : (bs ++ Lib.strCells s).length = bs.length + s.size := by rw [List.length_append, Lib.strCells_length]
    rw [e]
    exact ownsRow_setCell_below h1 hbB v'
  · intro h
    obtain ⟨e1, e2⟩ := List.append_eq_nil_iff.1 h
    exact h3.2 ⟨nil e1, by rw [← Lib.strCells_length, e2]; rfl⟩
  · have hold : ∀ j, j ≠ b → w1.heap[j]? = w.heap[j]? := fun j hj => by
      rcases hw1 with rfl | rfl
      · rfl
      · exact Below.heap_setCell _ _ _ _ hj
    have hos : w1.os = w.os ∧ w1.tape = w.tape ∧ w1.output = w.output := by rcases hw1 with rfl | rfl <;> exact ⟨rfl, rfl, rfl⟩
    refine ⟨h2.os.trans hos.1, h2.tape.trans hos.2.1, h2.output.trans hos.2.2, by have := h2.size; simp [World.setCell]; omega, fun j hj hjb hjv => ?_, fun k hk => by rw [← hsz]; exact h4 k hk⟩
    rw [Below.heap_setCell _ _ _ _ hjb, h2.block j (by omega) (fun e => hjv e.symm)]
    exact hold j hjb

set_option maxHeartbeats 1000000 in
set_option maxRecDepth 100000 in
theorem write_any (B b : Nat) (v : Value) (bs : List Value) (s : ByteArray) (d : Int) (w : World) (T : Text w B b v bs d) (hlen : bs.length + s.size ≤ 140737488355328) (hB : B ≤ w.heap.size) (hbB : b < B) :
    Calls Try.prog 10 #[.pointer (some ⟨b, 1, none⟩), .string s] w fun e w' => ∃ n : Int, e = .returned (.tuple #[.int .i64 n, .nilIface]) ∧ ∃ v', Text w' B b v' (bs ++ Lib.strCells s) d ∧ Wrote w w' b v v' := by
  obtain ⟨p, hb, hp⟩ := T.blk
  have key : ∃ w1, (w1 = w ∨ w1 = w.setCell ⟨b, 1, none⟩ (.pointer (some ⟨b, 1, none⟩))) ∧ w1.heap[b]? = some (parts (.pointer (some ⟨b, 1, none⟩)) v d) ∧ w1.ownsRow B 5 1 v bs.length bs ∧ w1.heap.size = w.heap.size ∧
      Hid (Calls Try.prog 13 #[.pointer (some ⟨b, 1, none⟩)] w fun e w' => e = .returned (.tuple #[]) ∧ w' = w1) := by
    obtain ⟨c1, c2, f1, f2, sh⟩ := cell_parts hb
    rcases hp with rfl | rfl
    · refine ⟨_, Or.inr rfl, ?_, ownsRow_setCell_below T.own hbB _, by simp, check_fresh b w c1 sh f1⟩
      rw [parts] at hb
      rw [heap_set hb]
      rfl
    · exact ⟨w, Or.inl rfl, hb, T.own, rfl, check_used b w c1⟩
  obtain ⟨w1, hw1, hb1, own1, hs1, CC⟩ := key
  have hsl : ∃ ao n cap, v = .slice ao n cap := by
    rcases own1.2 with ⟨e, _⟩ | ⟨g, cap, cur, e, _⟩
    · exact ⟨_, _, _, e⟩
    · exact ⟨_, _, _, e⟩
  obtain ⟨d1, d2, d3, d4, d5⟩ := cell_parts hb1
  have HW1 := Lib.hid hw1
  clear hw1
  go_enter Try.func10, Try.ntmps10
  go_wp2_with fail
  refine CC.out.mono ?_
  rintro e w' ⟨rfl, hw⟩
  subst w'
  go_wp2_with (at_builtin; refine wpList_append_lies _ rfl _ _ rfl B v bs.length bs rfl own1 s rfl hlen (by omega) ?_)
  intro v' w2 h1 h2 h3 h4
  obtain ⟨hblk, T', W'⟩ := write_mid hb1 HW1.out T.own T.nil hbB h1 h2 (by rw [h3]; simp) (by rw [hs1]; exact h4)
  obtain ⟨e1, e2, e3, e4, e5⟩ := cell_parts hblk
  have hsl' : ∃ ao n cap, v' = .slice ao n cap := by
    rcases h1.2 with ⟨e, _⟩ | ⟨g, cap, cur, e, _⟩
    · exact ⟨_, _, _, e⟩
    · exact ⟨_, _, _, e⟩
  obtain ⟨ao, n', cap', rfl⟩ := hsl'
  have TT := Lib.hid T'
  have WW := Lib.hid W'
  clear T' W' h1 h2 h3 h4 d1 d2 d3 d4 d5 hblk
  go_wp2
  go_ret2
  exact ⟨_, rfl, _, TT.out, WW.out⟩
end Go.Proofs.Qxb6616971a
