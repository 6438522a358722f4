/-
  What 'modelOps' hands out, with no Go in sight; the cells of it.
-/
import Derived.Test.Qxb6616342aTest
namespace Go.Proofs.Qxb6616342a
open Go.RowKit

structure Out where
  client : Int
  key : ByteArray
  put : Bool
  inv : Int
  call : Int
  out : Option Int
  ret : Int

def retOf (s : St) (c : Int) : Int := if s.puts = 1 then (if s.by_ < c then c else s.by_) else 9223372036854775807

section
variable (A : Nat → Int) (B : Nat → Bool) (S : Nat → ByteArray) (V C R : Nat → Int)

def emit (n i : Nat) : Option Out :=
  if R i ≠ -1 then some ⟨A i, S i, B i, if B i then V i else 0, C i, if B i then none else some (V i), R i⟩
  else if B i = true ∧ (st B S V R (S i, V i) n).seen = true then some ⟨A i, S i, true, V i, C i, none, retOf (st B S V R (S i, V i) n) (C i)⟩ else none

def outs (n k : Nat) : List Out := (List.range k).filterMap (emit A B S V C R n)

theorem outs_none {n k : Nat} (h : emit A B S V C R n k = none) : outs A B S V C R n (k + 1) = outs A B S V C R n k := by
  simp [outs, List.range_succ, List.filterMap_append, h]
theorem outs_some {n k : Nat} {o : Out} (h : emit A B S V C R n k = some o) : outs A B S V C R n (k + 1) = outs A B S V C R n k ++ [o] := by
  simp [outs, List.range_succ, List.filterMap_append, h]
theorem outs_le (n k : Nat) : (outs A B S V C R n k).length ≤ k := by
  have := List.length_filterMap_le (emit A B S V C R n) (List.range k)
  simpa [outs] using this
end

def outVal (o : Option Int) : Value := match o with | none => .nilIface | some v => .iface 3 (.int .i64 v)
def outCells (o : Out) : List Value := [.int .i64 o.client, .iface 40 (.agg #[.string o.key, .bool o.put, .int .i64 o.inv]), .int .i64 o.call, outVal o.out, .int .i64 o.ret]
def flatOut (l : List Out) : List Value := l.flatMap outCells
theorem flatOut_snoc (l : List Out) (o : Out) : flatOut (l ++ [o]) = flatOut l ++ outCells o := by simp [flatOut]
theorem outCells_length (o : Out) : (outCells o).length = 1 * 5 := rfl
theorem outCells_one (o : Out) : ∀ u ∈ outCells o, u.oneCell' = true := by
  intro u hu
  simp only [outCells, List.mem_cons, List.not_mem_nil, or_false] at hu
  rcases hu with rfl | rfl | rfl | rfl | rfl
  · rfl
  · rfl
  · rfl
  · unfold outVal; split <;> rfl
  · rfl

theorem Pending.other {B : Nat → Bool} {S : Nat → ByteArray} {V R : Nat → Int} {w0 wr w' : World} {k G : Nat} {f : ByteArray × Int → Option Nat} {c : ByteArray × Int → Array Value} (h : Pending B S V R w0 wr k f c) (hg : wr.grownBy w' (some G)) (h1 : w0.heap.size < G) (h2 : ∀ x b, f x = some b → b < G) : Pending B S V R w0 w' k f c :=
  ⟨h.fn.kept (hg.block _ h.lt (by simp; omega)), fun x b hx => ⟨(h.blk x b hx).1, (hg.block b (lt_of_block (h.blk x b hx).2) (by have := h2 x b hx; simp; omega)).trans (h.blk x b hx).2⟩, h.inj, h.dom, h.below.grown hg (Nat.le_of_lt h.lt) (fun b e => by cases e; omega)⟩
end Go.Proofs.Qxb6616342a
