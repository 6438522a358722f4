/-
  THE LAW's WALK: 'FnIntegerReplyDistinctAndSized' returns true, for every two int64.
-/
import Derived.Test.Qxb6616140aDoorHeader
import Derived.Test.Qxb6616140aDoorDigits
import Derived.Test.Qxb6616140aDoorEqual
import Derived.WalkSmall
namespace Go.Proofs.Qxb6616140aDoor
open Go.RowKit Go.Shelf

/-- What is owned is owned still where its block has not turned. -/
theorem owns_on {w w' : World} {B n : Nat} {v : Value} {xs : List Value} (h : w.ownsRow B 5 1 v n xs) (hb : ∀ j, B ≤ j → j < w.heap.size → w'.heap[j]? = w.heap[j]?) : w'.ownsRow B 5 1 v n xs := by
  have hlt := h.lt
  refine ⟨h.1, ?_⟩
  rcases h.2 with h2 | ⟨g, cap, cur, hv, hg, hh, r⟩
  · exact Or.inl h2
  · refine Or.inr ⟨g, cap, cur, hv, hg, ?_, r⟩
    rw [hb g hg (hlt g (by rw [hv]; rfl)).2]
    exact hh

theorem cells_of {w : World} {B g cap n : Nat} {xs : List UInt8} (hn : n = xs.length) (h : w.ownsRow B 5 1 (.slice (some ⟨g, 0, none⟩) n cap) n (Lib.byteCells xs)) : ∀ j, j < n → w.cell? ⟨g, j, none⟩ = some (.int .u8 ((xs.getD j 0).toNat : Int)) := by
  intro j hj
  rw [h.cellAt j (by omega)]
  have : j < xs.length := by omega
  simp [Lib.byteCells, this]

set_option maxHeartbeats 1000000 in
set_option maxRecDepth 100000 in
theorem law_any (a b : Int) (a0 : -9223372036854775808 ≤ a) (a1 : a ≤ 9223372036854775807) (b0 : -9223372036854775808 ≤ b) (b1 : b ≤ 9223372036854775807) (w : World)
    (htab : Lib.TabIs Tryd.prog w powName .u64 Lib.pow10Tab) :
    Calls Tryd.prog 4 #[.int .i64 a, .int .i64 b] w fun e w' => e = .returned (.bool true) ∧ Below w.heap.size w w' := by
  have hT := Lib.tabBelow_of_tabIs htab
  clear htab
  have la := reply_len_le a a0 a1
  have lb := reply_len_le b b0 b1
  have la3 : 0 < (reply a).length := by rw [reply_len]; omega
  have lb3 : 0 < (reply b).length := by rw [reply_len]; omega
  go_enter Tryd.func4, Tryd.ntmps4
  go_wp2_with fail
  have hb0 : Below w.heap.size w ((w.alloc (.cells #[.slice none 0 0] 26)).alloc (.cells #[.slice none 0 0] 26)) := ((Below.refl _ _).alloc (Nat.le_refl _) _).alloc (by simp) _
  refine (integer_any w.heap.size w.heap.size (w.heap.size + 2) a ((w.alloc (.cells #[.slice none 0 0] 26)).alloc (.cells #[.slice none 0 0] 26)) a0 a1 (Nat.le_refl _) (by omega) (by simp) (by simp) (by simp) (hT.on hb0)).mono ?_
  rintro e w1 ⟨rfl, va, ca1, -, oa1, nx1, rest1⟩
  have m1 : Below w.heap.size w w1 := hb0.trans nx1
  have s1 : w.heap.size + 2 ≤ w1.heap.size := by have := nx1.size; simpa using this
  have cb1 : w1.cell? ⟨w.heap.size + 1, 0, none⟩ = some (.slice none 0 0) := by
    rw [World.cell?_of_block (w := (w.alloc (.cells #[.slice none 0 0] 26)).alloc (.cells #[.slice none 0 0] 26)) (rest1 (w.heap.size + 1) (by omega) (by omega))]
    simp
  have fb1 : w1.frozen? ⟨w.heap.size + 1, 0, none⟩ = false := by
    rw [World.frozen?_of_block (w := (w.alloc (.cells #[.slice none 0 0] 26)).alloc (.cells #[.slice none 0 0] 26)) (rest1 (w.heap.size + 1) (by omega) (by omega))]
    simp
  clear hb0 nx1 rest1
  go_wp2_with fail
  refine (integer_any w.heap.size (w.heap.size + 1) w1.heap.size b w1 b0 b1 (by omega) (by omega) (Nat.le_refl _) cb1 fb1 (hT.on m1)).mono ?_
  rintro e w2 ⟨rfl, vb, cb2, -, ob2, nx2, rest2⟩
  have m2 : Below w.heap.size w w2 := m1.trans nx2
  have ca2 : w2.cell? ⟨w.heap.size, 0, none⟩ = some va := by
    rw [World.cell?_of_block (w := w1) (rest2 w.heap.size (by omega) (by omega))]
    exact ca1
  have oa2 : w2.ownsRow (w.heap.size + 2) 5 1 va (reply a).length (Lib.byteCells (reply a)) := owns_on oa1 (fun j h1 h2 => rest2 j h2 (by omega))
  clear cb1 fb1 nx2 rest2 m1 hT oa1 ca1 s1
  obtain ⟨ga, pa, rfl⟩ := shape oa2 la3
  obtain ⟨gb, pb, rfl⟩ := shape ob2 lb3
  obtain ⟨na, hna⟩ : ∃ n, n = (reply a).length := ⟨_, rfl⟩
  obtain ⟨nb, hnb⟩ : ∃ n, n = (reply b).length := ⟨_, rfl⟩
  have xa := cells_of hna (by rw [hna]; exact oa2)
  have xb := cells_of hnb (by rw [hnb]; exact ob2)
  rw [← hna] at la la3 ca2 
  rw [← hnb] at lb lb3 cb2
  have HA : Hid (na = (reply a).length) := hna
  have HB : Hid (nb = (reply b).length) := hnb
  clear hna hnb oa2 ob2
  have ra := fun w => replyLen_any a w a0 a1
  have rb := fun w => replyLen_any b w b0 b1
  rw [← HA.out] at ra
  rw [← HB.out] at rb
  have RA : Hid (∀ w, Calls Tryd.prog 15 #[.int .i64 a] w fun e w' => e = .returned (.int .i64 (na : Int)) ∧ w' = w) := ra
  have RB : Hid (∀ w, Calls Tryd.prog 15 #[.int .i64 b] w fun e w' => e = .returned (.int .i64 (nb : Int)) ∧ w' = w) := rb
  clear ra rb
  have eqa : ((na : Int) != (na : Int)) = false := by simp
  have eqb : ((nb : Int) != (nb : Int)) = false := by simp
  by_cases hl : na = nb
  · subst hl
    by_cases hab : a = b
    · have hab' : (a == b) = true := by simp [hab]
      have hrr : decide (reply a = reply b) = true := by simp [hab]
      have BE : Hid (∀ w', w' = w2 → Calls Tryd.prog 16 #[.slice (some ⟨ga, 0, none⟩) na pa, .slice (some ⟨gb, 0, none⟩) na pb] w' fun e w'' => e = .returned (.bool true) ∧ ∃ m, w'' = w'.drewN m) := by
        rintro w' rfl
        have := bytesEqual_same ga pa gb pb na (reply a) (reply b) w' xa xb HA.out HB.out (by omega)
        rw [hrr] at this
        exact this
      have HAB : Hid (a = b) := hab
      clear hab xa xb hrr
      go_wp2_with (first | (go_at_call 13; go_in) | (go_at_call_of 15 a; refine (RA.out _).mono ?_; rintro e w' ⟨rfl, hw'⟩; subst hw') | (go_at_call_of 15 b; refine (RB.out _).mono ?_; rintro e w' ⟨rfl, hw'⟩; subst hw'))
      refine (BE.out _ rfl).mono ?_
      rintro e w' ⟨rfl, m, rfl⟩
      go_wp2
      go_ret
      exact ⟨rfl, below_drewN m2 _⟩
    · have hab' : (a == b) = false := by simp [hab]
      have hrr : decide (reply a = reply b) = false := by simp; exact fun h => hab (reply_inj h)
      have BE : Hid (∀ w', w' = w2 → Calls Tryd.prog 16 #[.slice (some ⟨ga, 0, none⟩) na pa, .slice (some ⟨gb, 0, none⟩) na pb] w' fun e w'' => e = .returned (.bool false) ∧ ∃ m, w'' = w'.drewN m) := by
        rintro w' rfl
        have := bytesEqual_same ga pa gb pb na (reply a) (reply b) w' xa xb HA.out HB.out (by omega)
        rw [hrr] at this
        exact this
      clear xa xb hrr
      go_wp2_with (first | (go_at_call 13; go_in) | (go_at_call_of 15 a; refine (RA.out _).mono ?_; rintro e w' ⟨rfl, hw'⟩; subst hw') | (go_at_call_of 15 b; refine (RB.out _).mono ?_; rintro e w' ⟨rfl, hw'⟩; subst hw'))
      refine (BE.out _ rfl).mono ?_
      rintro e w' ⟨rfl, m, rfl⟩
      go_wp2
      go_ret
      exact ⟨rfl, below_drewN m2 _⟩
  · have hab : (a == b) = false := by
      rw [beq_eq_false_iff_ne]
      intro e
      apply hl
      rw [HA.out, HB.out, e]
    clear xa xb
    go_wp2_with (first | (go_at_call 13; go_in) | (go_at_call_of 15 a; refine (RA.out _).mono ?_; rintro e w' ⟨rfl, hw'⟩; subst hw') | (go_at_call_of 15 b; refine (RB.out _).mono ?_; rintro e w' ⟨rfl, hw'⟩; subst hw'))
    refine (bytesEqual_long ga pa gb pb na nb _ (by omega) (by omega) hl).mono ?_
    rintro e w' ⟨rfl, rfl⟩
    go_wp2
    go_ret
    exact ⟨rfl, m2⟩
end Go.Proofs.Qxb6616140aDoor
