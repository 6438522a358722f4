/-
  strings.Builder as the field 'text' of a meepoParts: WriteString and String, walked at that place (cells 1 and 2 of the four).
-/
import Derived.Test.Qxb6616971aProg
import Derived.Lib.Builder
import Derived.Lib.AppendStr
import Derived.Lib.UnsafeStr
import Derived.Lib.Slices
import Derived.Lib.Hide
import Derived.Laws.Externs
import Derived.WalkKit
import Derived.WalkSpells
import Derived.RegionTactic
namespace Go.Proofs.Qxb6616971a
open Go.RowKit

theorem infoByte : (Try.prog.info? 5).map (fun i => (i.zero, i.size, i.bytes)) = some (some (.int .u8 0), 1, 1) := by kernel_rfl
theorem sizeBuilder : (Try.prog.info? 34).map (·.size) = some 2 := by kernel_rfl
theorem liesBuilder : liesAt Try.prog Try.prog.depth 36 (4 / Try.prog.cellsOf 36) 1 34 1 = true := by kernel_rfl
theorem cellsByte : Try.prog.cellsOf 5 = 1 := by kernel_rfl

/-- The parts' block: nothing listed; the builder: 'p' its own address or nil, 'v' its buffer. -/
def parts (p v : Value) (d : Int) : Obj := .cells #[.slice none 0 0, p, v, .int .i64 d] 36 (0, 0)

/-- A parts' block whose text is bs: its buffer owns them (from block B on); nil where there is nothing. -/
structure Text (w : World) (B b : Nat) (v : Value) (bs : List Value) (d : Int) : Prop where
  blk : ∃ p, w.heap[b]? = some (parts p v d) ∧ (p = .pointer none ∨ p = .pointer (some ⟨b, 1, none⟩))
  own : w.ownsRow B 5 1 v bs.length bs
  nil : bs = [] → v = .slice none 0 0

theorem cell_parts {w : World} {b : Nat} {p v : Value} {d : Int} (h : w.heap[b]? = some (parts p v d)) :
    w.cell? ⟨b, 1, none⟩ = some p ∧ w.cell? ⟨b, 2, none⟩ = some v ∧ w.frozen? ⟨b, 1, none⟩ = false ∧ w.frozen? ⟨b, 2, none⟩ = false ∧ w.shape? b = some (36, 4) := by
  refine ⟨by simp [World.cell?, h, parts], by simp [World.cell?, h, parts], by simp [World.frozen?, h, parts], by simp [World.frozen?, h, parts], by simp [World.shape?, h, parts]⟩

set_option maxHeartbeats 1000000 in
set_option maxRecDepth 100000 in
theorem check_used (b : Nat) (w : World) (h0 : w.cell? ⟨b, 1, none⟩ = some (.pointer (some ⟨b, 1, none⟩))) :
    Calls Try.prog 13 #[.pointer (some ⟨b, 1, none⟩)] w fun e w' => e = .returned (.tuple #[]) ∧ w' = w := by
  obtain ⟨j, hj, _⟩ := Option.map_eq_some_iff.1 sizeBuilder
  go_enter Try.func13, Try.ntmps13
  go_wp2
  rw [Lib.run_neq_ptr_same w _ Try.underlying31 hj]
  go_wp2
  go_end0
  exact ⟨rfl, rfl⟩

set_option maxHeartbeats 1000000 in
set_option maxRecDepth 100000 in
theorem check_fresh (b : Nat) (w : World) (h0 : w.cell? ⟨b, 1, none⟩ = some (.pointer none)) (hsh : w.shape? b = some (36, 4)) (hfz : w.frozen? ⟨b, 1, none⟩ = false) :
    Calls Try.prog 13 #[.pointer (some ⟨b, 1, none⟩)] w fun e w' => e = .returned (.tuple #[]) ∧ w' = w.setCell ⟨b, 1, none⟩ (.pointer (some ⟨b, 1, none⟩)) := by
  obtain ⟨j, hj, hjs⟩ := Option.map_eq_some_iff.1 sizeBuilder
  go_enter Try.func13, Try.ntmps13
  go_wp2
  rw [Lib.run_to_unsafe w ⟨b, 1, none⟩ Try.underlying31 Try.underlying65 hj (by rw [hjs]; decide) hsh (show (1 : Nat) < 4 by omega)]
  simp only [Result.andThen]
  rw [Oper.upon_value]
  go_wp2
  rw [run_callFunc_extern Try.func15 (by kernel_rfl) (by kernel_rfl) (by kernel_rfl) (e := Extern.AbiNoEscape.same) (by kernel_rfl)]
  rw [Lib.run_noEscape]
  simp only [Result.andThen]
  rw [Oper.upon_value]
  go_wp2
  rw [Lib.run_from_unsafe w ⟨b, 1, none⟩ Try.underlying65 Try.underlying31 hj hsh liesBuilder]
  simp only [Result.andThen]
  rw [Oper.upon_value]
  go_wp2
  go_end0
  exact ⟨rfl, rfl⟩

/-- 'append(buf, s...)' on a row of the call's own: what it owns behind it, and WHERE the new row lies: where the old one lay, or in a new block. -/
theorem append_lies (w : World) (B : Nat) (v : Value) (n : Nat) (xs : List Value) (hown : w.ownsRow B 5 1 v n xs) (s : ByteArray) (hlen : n + s.size ≤ 140737488355328) (hB : B ≤ w.heap.size) (ty : TypeId) :
    ∃ v' w', (Builtin.append_ #[32, 9] ty #[v, .string s]).run Try.prog w = .ok v' w' ∧ w'.ownsRow B 5 1 v' (n + s.size) (xs ++ Lib.strCells s) ∧ w.grownBy w' v.ownBlock ∧ (v' = .slice none 0 0 ↔ v = .slice none 0 0 ∧ s.size = 0) ∧
      (∀ k, v'.ownBlock = some k → v.ownBlock = some k ∨ w.heap.size ≤ k) := by
  obtain ⟨i0, hi, hz0, hz1, hz2⟩ := info_parts infoByte
  have h63 : n + s.size ≤ maxLen := by unfold maxLen; omega
  obtain ⟨v', w', hr, h1, h2, h3⟩ := Lib.run_append_own_string (P := Try.prog) w B 32 9 ty 5 i0 Try.underlying32 Try.underlying9 hi hz0 hz1 hz2 v n xs hown s h63 hlen hB
  refine ⟨v', w', hr, h1, h2, h3, fun k hk => ?_⟩
  rcases hown.2 with ⟨rfl, rfl⟩ | ⟨g, cap, cur, rfl, hbg, hg, hnc, hcm, hcs, htake⟩
  · have hx : xs = [] := by have := hown.1; simpa using this
    subst hx
    obtain ⟨v2, w2, hr2, k1, _, _⟩ := Lib.run_append_own_string (P := Try.prog) w w.heap.size 32 9 ty 5 i0 Try.underlying32 Try.underlying9 hi hz0 hz1 hz2 (.slice none 0 0) 0 [] (World.ownsRow_nil _ _ _ _) s h63 hlen (Nat.le_refl _)
    rw [hr] at hr2
    cases hr2
    exact Or.inr (k1.lt k hk).1
  · by_cases hroom : n + s.size ≤ cap
    · have hr2 := Lib.run_append_room_string (P := Try.prog) w 32 9 ty 5 i0 Try.underlying32 Try.underlying9 hi hz1 g n cap cur hg s hroom (by rw [hcs]; omega)
      rw [hr] at hr2
      cases hr2
      exact Or.inl hk
    · have hxl : xs.length = n := by simpa using hown.1
      have hr2 := Lib.run_append_grow_string (P := Try.prog) w 32 9 ty 5 i0 (.int .u8 0) Try.underlying32 Try.underlying9 hi hz0 ⟨g, 0, none⟩ n cap xs (by rw [hz1]; simpa using hxl) (hown.cells (g := g) rfl) s (by omega) (by unfold maxLen at hcm; omega) (by rw [hz2]; exact growslice_fits (by omega) (by omega))
      rw [hr] at hr2
      cases hr2
      simp [Value.ownBlock] at hk
      exact Or.inr (by omega)

/-- The same as a law for the walk. -/
theorem wpList_append_lies {ops : Array Oper} {rest : List Oper} {o : Oper} {a : Act} {Q : Exit → Act → World → Prop} (w : World) (hgd : o.guard = none) (sl x : Operand)
    (ho : o.op = .call { callee := .builtin .append, args := #[sl, x], argTypes := #[32, 9] }) (B : Nat) (v : Value) (n : Nat) (xs : List Value) (hs : a.eval sl = v) (hown : w.ownsRow B 5 1 v n xs) (s : ByteArray) (hx : a.eval x = .string s)
    (hlen : n + s.size ≤ 140737488355328) (hB : B ≤ w.heap.size)
    (h : ∀ v' w', w'.ownsRow B 5 1 v' (n + s.size) (xs ++ Lib.strCells s) → w.grownBy w' v.ownBlock → (v' = .slice none 0 0 ↔ v = .slice none 0 0 ∧ s.size = 0) → (∀ k, v'.ownBlock = some k → v.ownBlock = some k ∨ w.heap.size ≤ k) → wpList Try.prog ops Q rest (a.put o.dst v') w') :
    wpList Try.prog ops Q (o :: rest) a w := by
  refine wpList_plain hgd fun K hK => ?_
  obtain ⟨v', w', hr, h1, h2, h3, h4⟩ := append_lies w B v n xs hown s hlen hB o.type
  unfold Oper.wp execOp
  simp only [ho, resolve, invoke, builtin, Sem.run_bind, Sem.run_pure, Result.andThen_ok, List.map_toArray, List.map_cons, List.map_nil, hs, hx, hr]
  exact hK _ _ (h v' w' h1 h2 h3 h4)
end Go.Proofs.Qxb6616971a
