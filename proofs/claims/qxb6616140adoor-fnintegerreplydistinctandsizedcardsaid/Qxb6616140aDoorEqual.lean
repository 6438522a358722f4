import Derived.Test.Qxb6616140aDoorProg
import Derived.WalkKit
import Derived.WalkSpells
import Derived.Deep.QuietTactic
import Derived.BigQuiet
namespace Go.Proofs.Qxb6616140aDoor
open Go.RowKit

set_option maxHeartbeats 400000 in
theorem bytesEqual_long (ga ca gb cb na nb : Nat) (w : World) (_la : na ≤ 1000) (_lb : nb ≤ 1000) (_hne : na ≠ nb) :
    Calls Tryd.prog 16 #[.slice (some ⟨ga, 0, none⟩) na ca, .slice (some ⟨gb, 0, none⟩) nb cb] w fun e w' => e = .returned (.bool false) ∧ w' = w := by
  go_enter Tryd.func16, Tryd.ntmps16
  go_wp2
  go_ret
  exact ⟨rfl, rfl⟩

theorem take_snoc (A : List UInt8) (k : Nat) (h : k < A.length) : A.take (k + 1) = A.take k ++ [A.getD k 0] := by
  rw [List.take_succ_eq_append_getElem h]
  simp [List.getD, h]

theorem eq_of_take {A B : List UInt8} (hl : A.length = B.length) (h : A.take A.length = B.take A.length) : A = B := by
  rw [List.take_length, hl, List.take_length] at h
  exact h

theorem byte_inj {a b : UInt8} (h : (a.toNat : Int) = (b.toNat : Int)) : a = b := UInt8.toNat_inj.1 (by omega)

set_option maxHeartbeats 400000 in
theorem bytesEqual_same (ga ca gb cb n : Nat) (A B : List UInt8) (w : World) (hA : ∀ j, j < n → w.cell? ⟨ga, j, none⟩ = some (.int .u8 ((A.getD j 0).toNat : Int))) (hB : ∀ j, j < n → w.cell? ⟨gb, j, none⟩ = some (.int .u8 ((B.getD j 0).toNat : Int)))
    (hna : n = A.length) (hnb : n = B.length) (la : n ≤ 1000) :
    Calls Tryd.prog 16 #[.slice (some ⟨ga, 0, none⟩) n ca, .slice (some ⟨gb, 0, none⟩) n cb] w fun e w' => e = .returned (.bool (decide (A = B))) ∧ ∃ m, w' = w.drewN m := by
  have HA : Hid (n = A.length) := hna
  have HB : Hid (n = B.length) := hnb
  clear hna hnb
  go_enter Tryd.func16, Tryd.ntmps16
  go_wp2
  go_loopw [5] (fun i wr => ∃ k : Nat, k ≤ n ∧ i = .int .i64 k ∧ A.take k = B.take k ∧ ∃ m, wr = w.drewN m) (fun i _ => n - (intOf i).toNat)
  case atStart => exact ⟨0, Nat.zero_le _, rfl, rfl, 0, rfl⟩
  case round =>
    obtain ⟨k, hk, rfl, ht, m, rfl⟩ := hrel
    have HT : Hid (A.take k = B.take k) := ht
    clear ht
    by_cases hlt : k < n
    · have ca1 := hA k hlt
      have cb1 := hB k hlt
      obtain ⟨x, hx⟩ : ∃ x : UInt8, x = A.getD k 0 := ⟨_, rfl⟩
      obtain ⟨y, hy⟩ : ∃ y : UInt8, y = B.getD k 0 := ⟨_, rfl⟩
      rw [← hx] at ca1
      rw [← hy] at cb1
      have HX : Hid (x = A.getD k 0) := hx
      have HY : Hid (y = B.getD k 0) := hy
      clear hx hy hA hB
      by_cases hxy : (x.toNat : Int) = (y.toNat : Int)
      · have hb : ((x.toNat : Int) != (y.toNat : Int)) = false := by simp [hxy]
        go_wp2_with fail
        go_quiet (fail)
        go_wp2
        go_roundw
        case rel =>
          refine ⟨k + 1, by omega, by go_num, ?_, _, rfl⟩
          rw [take_snoc A k (by have := HA.out; omega), take_snoc B k (by have := HB.out; omega), HT.out, ← HX.out, ← HY.out, byte_inj hxy]
        case measure => simp [intOf]; omega
      · have hb : ((x.toNat : Int) != (y.toNat : Int)) = true := by simp [hxy]
        go_wp2_with fail
        go_quiet (fail)
        go_wp2
        go_ret
        refine ⟨?_, _, World.drewN_drewN ..⟩
        have hAB : A ≠ B := by
          intro e
          apply hxy
          rw [HX.out, HY.out, e]
        simp [hAB]
    · go_wp2
      go_ret
      refine ⟨?_, _, rfl⟩
      have hkn : k = n := by omega
      have hAB : A = B := by
        have h1 := HT.out
        rw [hkn, HA.out] at h1
        exact eq_of_take (HA.out.symm.trans HB.out) h1
      simp [hAB]
end Go.Proofs.Qxb6616140aDoor
