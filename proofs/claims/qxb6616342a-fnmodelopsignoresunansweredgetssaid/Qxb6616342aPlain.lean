/-
  What 'modelOps' computes, with no Go in sight; the laws at the map's operations; the history as the walks see it.
-/
import Derived.Test.Qxb6616342aMap
namespace Go.Proofs.Qxb6616342a
open Go.RowKit

/-- How a pending value's three fields stand behind the first k operations. -/
structure St where
  puts : Nat
  seen : Bool
  by_ : Int

def St.step (s : St) (b : Bool) (r : Int) : St :=
  if b then { s with puts := s.puts + 1 } else if r ≠ -1 ∧ (s.seen = false ∨ r < s.by_) then { s with seen := true, by_ := r } else s

section
variable (A : Nat → Int) (B : Nat → Bool) (S : Nat → ByteArray) (V C R : Nat → Int)

def st (x : ByteArray × Int) : Nat → St
  | 0 => ⟨0, false, 0⟩
  | k + 1 => if (S k, V k) = x then (st x k).step (B k) (R k) else st x k

theorem st_puts (x : ByteArray × Int) : ∀ k, (st B S V R x k).puts ≤ k
  | 0 => Nat.le_refl _
  | k + 1 => by
    have := st_puts x k
    simp only [st, St.step]
    split
    · split
      · simp; omega
      · split <;> simp <;> omega
    · omega
end

/-- The three cells of a pending value. -/
def stCells (s : St) : Array Value := #[.int .i64 (s.puts : Int), .bool s.seen, .int .i64 s.by_]

/-- The history's operations as the walks see them. -/
structure OpsAt (w : World) (ao : Option Addr) (n : Nat) (A : Nat → Int) (B : Nat → Bool) (S : Nat → ByteArray) (V C R : Nat → Int) : Prop where
  cells : ∀ k, k < n → ∃ g, ao = some ⟨g, 0, none⟩ ∧ g < w.heap.size ∧ w.cell? ⟨g, k * 6, none⟩ = some (.int .i64 (A k)) ∧ w.cell? ⟨g, k * 6 + 1, none⟩ = some (.bool (B k)) ∧ w.cell? ⟨g, k * 6 + 2, none⟩ = some (.string (S k)) ∧
    w.cell? ⟨g, k * 6 + 3, none⟩ = some (.int .i64 (V k)) ∧ w.cell? ⟨g, k * 6 + 4, none⟩ = some (.int .i64 (C k)) ∧ w.cell? ⟨g, k * 6 + 5, none⟩ = some (.int .i64 (R k))

theorem flat_length (E : Nat → List Value) (h : ∀ k, (E k).length = 6) : ∀ n, (flat E n).length = n * 6
  | 0 => rfl
  | n + 1 => by rw [flat_succ, List.length_append, flat_length E h n, h]; omega

theorem flat_get (E : Nat → List Value) (h : ∀ k, (E k).length = 6) (k j : Nat) (hj : j < 6) : ∀ n, k < n → (flat E n)[k * 6 + j]? = (E k)[j]?
  | 0, hk => by omega
  | n + 1, hk => by
    rw [flat_succ]
    rcases Nat.lt_or_ge k n with h' | h'
    · rw [List.getElem?_append_left (by rw [flat_length E h]; omega)]
      exact flat_get E h k j hj n h'
    · obtain rfl : k = n := by omega
      rw [List.getElem?_append_right (by rw [flat_length E h]; omega), flat_length E h]
      congr 1
      omega

theorem History.ops {w : World} {p n : Nat} {A : Nat → Int} {B : Nat → Bool} {S : Nat → ByteArray} {V C R : Nat → Int} {v : Value} (H : History w p n (opAt A B S V C R) v) : ∃ ao cap, v = .slice ao n cap ∧ OpsAt w ao n A B S V C R := by
  rcases H.own.2 with ⟨rfl, rfl⟩ | ⟨g, cap, cur, rfl, hb, hg, _⟩
  · exact ⟨none, 0, rfl, ⟨fun k hk => by omega⟩⟩
  · refine ⟨some ⟨g, 0, none⟩, cap, rfl, ⟨fun k hk => ⟨g, rfl, lt_of_block hg, ?_⟩⟩⟩
    have hc : ∀ j u, j < 6 → (opAt A B S V C R k)[j]? = some u → w.cell? ⟨g, k * 6 + j, none⟩ = some u := fun j u hj hu => by
      have := H.own.cells (g := g) rfl (k * 6 + j) u (by rw [flat_get _ (fun _ => rfl) k j hj n hk]; exact hu)
      rw [Addr.add_lit] at this
      simpa using this
    exact ⟨hc 0 _ (by omega) rfl, hc 1 _ (by omega) rfl, hc 2 _ (by omega) rfl, hc 3 _ (by omega) rfl, hc 4 _ (by omega) rfl, hc 5 _ (by omega) rfl⟩

theorem wpList_mapUpdate_fn (w : World) {ops : Array Oper} {rest : List Oper} {o : Oper} {a : Act} {Q : Exit → Act → World → Prop}
    (hg : o.guard = none) (m x v : Operand) (hop : o.op = Op.mapUpdate 49 m x v) (M : Nat) (f : ByteArray × Int → Option Nat) (hm : a.eval m = .map (some M)) (hfn : MapFn w M f) (key : ByteArray × Int) (b : Nat) (hx : a.eval x = kv key) (hv : a.eval v = .pointer (some ⟨b, 0, none⟩))
    (hK : ∀ w', MapFn w' M (fun y => if y = key then some b else f y) → w.grownBy w' (some M) → wpList Try.prog ops Q rest (a.put o.dst undef) w') :
    wpList Try.prog ops Q (o :: rest) a w := by
  refine wpList_plain hg fun K' hK' => ?_
  obtain ⟨w', hrun, r1, r2⟩ := hfn.update key b
  unfold Oper.wp
  simp [execOp, hop, hm, hx, hv, hrun, Result.andThen]
  exact hK' _ _ (hK w' r1 r2)

theorem wpList_lookup_fn (w : World) {ops : Array Oper} {rest : List Oper} {o : Oper} {a : Act} {Q : Exit → Act → World → Prop}
    (hg : o.guard = none) (m x : Operand) (hop : o.op = Op.lookup 49 m x false) (M : Nat) (f : ByteArray × Int → Option Nat) (hm : a.eval m = .map (some M)) (hfn : MapFn w M f) (key : ByteArray × Int) (hx : a.eval x = kv key) (u : Value) (hu : gives (f key) = u)
    (hK : wpList Try.prog ops Q rest (a.put o.dst u) w) :
    wpList Try.prog ops Q (o :: rest) a w := by
  refine wpList_plain hg fun K' hK' => ?_
  have hrun := hfn.lookup key
  rw [hu] at hrun
  unfold Oper.wp
  simp [execOp, hop, hm, hx, hrun, Result.andThen]
  exact hK' _ _ hK
end Go.Proofs.Qxb6616342a
