/-
  THE PLAIN LAW: a get that was never answered, put in at any place, leaves what 'modelOps' hands out as it was; every answered operation is handed out; each return is no earlier than its call.
-/
import Derived.Test.Qxb6616342aOuts
namespace Go.Proofs.Qxb6616342a

/-- x put in at place p. -/
def ins {α : Type} (p : Nat) (x : α) (X : Nat → α) : Nat → α := fun i => if i < p then X i else if i = p then x else X (i - 1)

theorem ins_lt {α : Type} {p : Nat} {x : α} {X : Nat → α} {i : Nat} (h : i < p) : ins p x X i = X i := by simp [ins, h]
theorem ins_at {α : Type} {p : Nat} {x : α} {X : Nat → α} : ins p x X p = x := by simp [ins]
theorem ins_gt {α : Type} {p : Nat} {x : α} {X : Nat → α} {i : Nat} (h : p ≤ i) : ins p x X (i + 1) = X i := by
  unfold ins
  rw [if_neg (by omega), if_neg (by omega)]
  rfl

theorem step_get (s : St) : s.step false (-1) = s := by simp [St.step]

section
variable (A : Nat → Int) (B : Nat → Bool) (S : Nat → ByteArray) (V C R : Nat → Int) (p : Nat) (gc : Int) (g : ByteArray) (gl : Int)

theorem st_ins_le (x : ByteArray × Int) : ∀ k, k ≤ p → st (ins p false B) (ins p g S) (ins p (-1) V) (ins p (-1) R) x k = st B S V R x k
  | 0, _ => rfl
  | k + 1, h => by
    simp only [st]
    rw [st_ins_le x k (by omega), ins_lt (by omega), ins_lt (by omega), ins_lt (by omega), ins_lt (by omega)]

theorem st_ins_gt (x : ByteArray × Int) : ∀ k, p ≤ k → st (ins p false B) (ins p g S) (ins p (-1) V) (ins p (-1) R) x (k + 1) = st B S V R x k := by
  have here : st (ins p false B) (ins p g S) (ins p (-1) V) (ins p (-1) R) x (p + 1) = st B S V R x p := by
    rw [show st (ins p false B) (ins p g S) (ins p (-1) V) (ins p (-1) R) x (p + 1) = if (ins p g S p, ins p (-1) V p) = x then (st (ins p false B) (ins p g S) (ins p (-1) V) (ins p (-1) R) x p).step (ins p false B p) (ins p (-1) R p) else st (ins p false B) (ins p g S) (ins p (-1) V) (ins p (-1) R) x p from rfl]
    rw [st_ins_le _ _ _ _ _ _ _ p (Nat.le_refl _)]
    simp only [ins_at, step_get]
    split <;> rfl
  intro k hk
  induction k with
  | zero =>
    obtain rfl : p = 0 := by omega
    exact here
  | succ k ih =>
    rcases Nat.lt_or_ge k p with h | h
    · obtain rfl : p = k + 1 := by omega
      exact here
    · rw [st, ih h, ins_gt h, ins_gt h, ins_gt h, ins_gt h]
      rfl

theorem emit_ins_lt {n i : Nat} (hn : p ≤ n) (hi : i < p) : emit (ins p gc A) (ins p false B) (ins p g S) (ins p (-1) V) (ins p gl C) (ins p (-1) R) (n + 1) i = emit A B S V C R n i := by
  unfold emit
  rw [ins_lt hi, ins_lt hi, ins_lt hi, ins_lt hi, ins_lt hi, ins_lt hi, st_ins_gt _ _ _ _ _ _ _ n hn]
theorem emit_ins_at {n : Nat} : emit (ins p gc A) (ins p false B) (ins p g S) (ins p (-1) V) (ins p gl C) (ins p (-1) R) (n + 1) p = none := by
  unfold emit
  simp [ins_at]
theorem emit_ins_gt {n i : Nat} (hn : p ≤ n) (hi : p ≤ i) : emit (ins p gc A) (ins p false B) (ins p g S) (ins p (-1) V) (ins p gl C) (ins p (-1) R) (n + 1) (i + 1) = emit A B S V C R n i := by
  unfold emit
  rw [ins_gt hi, ins_gt hi, ins_gt hi, ins_gt hi, ins_gt hi, ins_gt hi, st_ins_gt _ _ _ _ _ _ _ n hn]

theorem outs_succ (n k : Nat) : outs A B S V C R n (k + 1) = outs A B S V C R n k ++ (emit A B S V C R n k).toList := by
  cases h : emit A B S V C R n k with
  | none => rw [outs_none _ _ _ _ _ _ h]; simp
  | some o => rw [outs_some _ _ _ _ _ _ h]; rfl

theorem outs_ins_le {n : Nat} (hn : p ≤ n) : ∀ k, k ≤ p → outs (ins p gc A) (ins p false B) (ins p g S) (ins p (-1) V) (ins p gl C) (ins p (-1) R) (n + 1) k = outs A B S V C R n k
  | 0, _ => rfl
  | k + 1, h => by rw [outs_succ, outs_succ, outs_ins_le hn k (by omega), emit_ins_lt _ _ _ _ _ _ _ _ _ _ hn (by omega)]

theorem outs_ins {n : Nat} (hn : p ≤ n) : outs (ins p gc A) (ins p false B) (ins p g S) (ins p (-1) V) (ins p gl C) (ins p (-1) R) (n + 1) (n + 1) = outs A B S V C R n n := by
  have h : ∀ k, p ≤ k → outs (ins p gc A) (ins p false B) (ins p g S) (ins p (-1) V) (ins p gl C) (ins p (-1) R) (n + 1) (k + 1) = outs A B S V C R n k := by
    intro k hk
    induction k with
    | zero =>
      obtain rfl : p = 0 := by omega
      rw [outs_succ, outs_ins_le _ _ _ _ _ _ _ _ _ _ hn 0 (Nat.le_refl _), emit_ins_at]
      simp
    | succ k ih =>
      rcases Nat.lt_or_ge k p with h | h
      · obtain rfl : p = k + 1 := by omega
        rw [outs_succ, outs_ins_le _ _ _ _ _ _ _ _ _ _ hn (k + 1) (Nat.le_refl _), emit_ins_at]
        simp
      · rw [outs_succ, ih h, emit_ins_gt _ _ _ _ _ _ _ _ _ _ hn h, ← outs_succ]
  exact h n hn

/-- How many of the first k are answered. -/
def cnt : Nat → Nat
  | 0 => 0
  | k + 1 => if R k ≠ -1 then cnt k + 1 else cnt k

theorem cnt_le : ∀ k, cnt R k ≤ k
  | 0 => Nat.le_refl _
  | k + 1 => by
    have := cnt_le k
    unfold cnt
    split <;> omega

theorem cnt_outs (n : Nat) : ∀ k, cnt R k ≤ (outs A B S V C R n k).length
  | 0 => Nat.zero_le _
  | k + 1 => by
    have := cnt_outs n k
    rw [outs_succ, List.length_append]
    unfold cnt
    split
    · rename_i h
      have : (emit A B S V C R n k) ≠ none := by simp [emit, h]
      cases h' : emit A B S V C R n k with
      | none => exact absurd h' this
      | some o => simp; omega
    · omega

theorem outs_ret {n : Nat} (hr : ∀ i, i < n → R i = -1 ∨ C i ≤ R i) (hc : ∀ i, i < n → C i ≤ 9223372036854775807) (i : Nat) (o : Out) (h : (outs A B S V C R n n)[i]? = some o) : o.call ≤ o.ret := by
  have hm := List.mem_of_getElem? h
  simp only [outs, List.mem_filterMap, List.mem_range] at hm
  obtain ⟨k, hk, he⟩ := hm
  unfold emit at he
  split at he
  · cases he
    rcases hr k hk with h' | h'
    · rename_i h''; exact absurd h' h''
    · exact h'
  · split at he
    · cases he
      simp only [retOf]
      split
      · split <;> omega
      · exact hc k hk
    · cases he
end
end Go.Proofs.Qxb6616342a
