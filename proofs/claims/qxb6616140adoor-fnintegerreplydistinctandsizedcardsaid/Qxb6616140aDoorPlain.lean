/-
  The plain law behind 'FnIntegerReplyDistinctAndSized': what a reply is, how long it is, and that replies of two integers are equal exactly when the integers are. No Go in sight.
-/
import Derived.Lib.ItoaLen
namespace Go.Proofs.Qxb6616140aDoor
open Go

/-- The bytes of an integer reply: a colon, the decimal text, CR LF. -/
def reply (n : Int) : List UInt8 := 58 :: (Lib.itoa n ++ [13, 10])

/-- How long a decimal text is. -/
theorem itoa_len (n : Int) : (Lib.itoa n).length = Lib.nDigits n.natAbs + (if n < 0 then 1 else 0) := by
  unfold Lib.itoa
  by_cases h : n < 0
  · rw [if_pos h, if_pos h, List.length_cons, Lib.decDigits_length]
  · rw [if_neg h, if_neg h, Lib.decDigits_length]
    congr 2
    omega

theorem reply_len (n : Int) : (reply n).length = 3 + (Lib.itoa n).length := by
  unfold reply
  simp
  omega

/-- The number that a list of digits stands for. -/
def val (l : List UInt8) : Nat := l.foldl (fun acc c => 10 * acc + (c.toNat - 48)) 0

theorem val_snoc (l : List UInt8) (c : UInt8) : val (l ++ [c]) = 10 * val l + (c.toNat - 48) := by
  unfold val
  rw [List.foldl_append]
  rfl

theorem digit_nat (d : Nat) (h : d < 10) : (UInt8.ofNat (48 + d)).toNat = 48 + d := by
  rw [UInt8.toNat_ofNat']
  omega

theorem val_decDigits (u : Nat) : val (Lib.decDigits u) = u := by
  induction u using Nat.strongRecOn with
  | _ u ih =>
    by_cases h : u < 10
    · rw [Lib.decDigits_one h]
      have := val_snoc [] (UInt8.ofNat (48 + u))
      rw [List.nil_append] at this
      rw [this, digit_nat u h]
      simp [val]
    · rw [Lib.decDigits, dif_neg h, val_snoc, ih (u / 10) (by omega), digit_nat _ (Nat.mod_lt _ (by omega))]
      omega

theorem decDigits_ge (u : Nat) : ∀ c ∈ Lib.decDigits u, 48 ≤ c.toNat := by
  induction u using Nat.strongRecOn with
  | _ u ih =>
    intro c hc
    by_cases h : u < 10
    · rw [Lib.decDigits_one h] at hc
      rw [List.mem_singleton.1 hc, digit_nat u h]
      omega
    · rw [Lib.decDigits, dif_neg h, List.mem_append] at hc
      rcases hc with hc | hc
      · exact ih (u / 10) (by omega) c hc
      · rw [List.mem_singleton.1 hc, digit_nat _ (Nat.mod_lt _ (by omega))]
        omega

theorem decDigits_inj {u v : Nat} (h : Lib.decDigits u = Lib.decDigits v) : u = v := by
  rw [← val_decDigits u, ← val_decDigits v, h]

theorem minus_not (u v : Nat) : 45 :: Lib.decDigits u ≠ Lib.decDigits v := by
  intro h
  have := decDigits_ge v 45 (by rw [← h]; simp)
  revert this
  decide

theorem itoa_inj {a b : Int} (h : Lib.itoa a = Lib.itoa b) : a = b := by
  unfold Lib.itoa at h
  by_cases ha : a < 0
  · by_cases hb : b < 0
    · rw [if_pos ha, if_pos hb] at h
      have := decDigits_inj (List.cons.inj h).2
      omega
    · rw [if_pos ha, if_neg hb] at h
      exact absurd h (minus_not _ _)
  · by_cases hb : b < 0
    · rw [if_neg ha, if_pos hb] at h
      exact absurd h.symm (minus_not _ _)
    · rw [if_neg ha, if_neg hb] at h
      have := decDigits_inj h
      omega

theorem reply_inj {a b : Int} (h : reply a = reply b) : a = b := by
  unfold reply at h
  exact itoa_inj (List.append_cancel_right (List.cons.inj h).2)

/-- A reply is short. -/
theorem reply_len_le (n : Int) (h0 : -9223372036854775808 ≤ n) (h1 : n ≤ 9223372036854775807) : (reply n).length ≤ 24 := by
  have := Lib.itoa_length_le n h0 h1
  rw [reply_len]
  omega

end Go.Proofs.Qxb6616140aDoor
