/-
  'zzValidUTF8': it answers some bool, whatever the string; it only reads.
-/
import Derived.Test.Qxb6616342aProg
import Derived.WalkKit
import Derived.WalkSpells
import Derived.Deep.LoopGhost
import Derived.Deep.DeepCutAuto
import Derived.Deep.CutBlock
import Derived.Lib.Hide
namespace Go.Proofs.Qxb6616342a
open Go.RowKit

set_option maxHeartbeats 2000000 in
set_option maxRecDepth 100000 in
theorem valid_any (s : ByteArray) (hs : s.size ≤ 1048576) (w : World) :
    Calls Try.prog 6 #[.string s] w fun e w' => (e = .returned (.bool false) ∨ e = .returned (.bool true)) ∧ w' = w := by
  go_enter Try.func6, Try.ntmps6
  go_wp2
  go_loopg [3] s.size (fun g i wr => ∃ k : Nat, k ≤ s.size ∧ g = s.size - k ∧ i = .int .i64 k ∧ wr = w)
  case atStart => exact ⟨0, Nat.zero_le _, rfl, rfl, rfl⟩
  case round =>
    obtain ⟨k, hk, rfl, rfl, rfl⟩ := hrel
    by_cases hlt : k < s.size
    case neg =>
      go_wp2
      go_ret
      exact ⟨Or.inr rfl, rfl⟩
    by_cases hc : (s[k].toNat : Int) < 128
    case pos =>
      go_wp2
      go_roundg (s.size - (k + 1))
      case measure => omega
      case rel => exact ⟨k + 1, by omega, rfl, by go_num, rfl⟩
    have hb := s[k].toNat_lt
    go_upto_block 2 with fail
    go_cut [4, 5, 6, 7] from 9 to 99 (fun c n lo hi wx => ∃ (y : UInt8) (m : Nat) (l h : Int), c = .int .u8 y.toNat ∧ n = .int .i64 m ∧ 1 ≤ m ∧ m ≤ 3 ∧ lo = .int .u8 l ∧ hi = .int .u8 h ∧ wx = wr)
    case first =>
      go_wp2
      all_goals first
        | (go_meet
           case rel => exact ⟨_, _, _, _, rfl, rfl, by decide, by decide, rfl, rfl, rfl⟩)
        | (go_ret
           exact ⟨Or.inl rfl, rfl⟩)
    case rest =>
      obtain ⟨y, m, l, h, rfl, rfl, hm1, hm3, rfl, rfl, rfl⟩ := hcut
      clear hc hb
      by_cases hov : k + m < s.size
      case neg =>
        go_wp2
        go_ret
        exact ⟨Or.inl rfl, rfl⟩
      have h1 : k + 1 < s.size := by omega
      go_upto_region 33 with fail
      all_goals try (go_ret; exact ⟨Or.inl rfl, rfl⟩)
      go_wp2
      go_loopg [8] (m - 1) (fun g i wx => ∃ j : Nat, 2 ≤ j ∧ j ≤ m + 1 ∧ g = m + 1 - j ∧ i = .int .i64 j ∧ wx = wc)
      case atStart => exact ⟨2, by omega, by omega, by omega, rfl, rfl⟩
      case round =>
        obtain ⟨j, hj2, hjm, rfl, rfl, rfl⟩ := hrel
        by_cases hj : j ≤ m
        case pos =>
          have hin : k + j < s.size := by omega
          go_wp2
          all_goals first
            | (go_ret
               exact ⟨Or.inl rfl, rfl⟩)
            | (go_roundg (m + 1 - (j + 1))
               case measure => omega
               case rel => exact ⟨j + 1, by omega, by omega, rfl, by go_num, rfl⟩)
        case neg =>
          go_wp2
          go_roundg (s.size - (k + (m + 1)))
          case measure => omega
          case rel => exact ⟨k + (m + 1), by omega, rfl, by go_num, rfl⟩
end Go.Proofs.Qxb6616342a
