/-
  The law's tail: the comparison of what the two histories give.
-/
import Derived.Test.Qxb6616342aTail
namespace Go.Proofs.Qxb6616342a
open Go.RowKit

set_option maxHeartbeats 4000000 in
set_option maxRecDepth 1000000 in
theorem tail25 (a : Act) (w w0 : World) (G1 G2 n c5 : Nat) (o5 : Option Addr) (R : Nat → Int) (l : List Out) (hs : a.tmps.size = 373) (hd : a.defers = [])
    (s5 : a.tmps.getD 5 undef = .slice o5 n c5) (s29 : a.tmps.getD 29 undef = .int .i64 (n : Int)) (s38 : a.tmps.getD 38 undef = .slice (some ⟨G1, 0, none⟩) l.length l.length) (s39 : a.tmps.getD 39 undef = .slice (some ⟨G2, 0, none⟩) l.length l.length)
    (hR : Row w o5 n (fun k => .int .i64 (R k))) (hn : n ≤ 4096) (hl : l.length ≤ n) (hcnt : cnt R n ≤ l.length) (hret : ∀ (i : Nat) (o : Out), l[i]? = some o → o.call ≤ o.ret) (Z1 : ZRow w G1 l) (Z2 : ZRow w G2 l) (hB : Below w0.heap.size w0 w) :
    Code.wp Try.prog (tail3 Try.f3 25) (bodyPost Try.prog Try.f3 (fun e w' => e = .returned (.bool true) ∧ Below w0.heap.size w0 w')) a w := by
  rw [act_lit a hs hd]
  rw [s5, s29, s38, s39]
  obtain ⟨f, hf⟩ : ∃ f : Nat → Value, ∀ t, a.tmps.getD t undef = f t := ⟨_, fun _ => rfl⟩
  simp only [hf]
  clear hf s5 s29 s38 s39 hs hd a
  have HR := Lib.hid hR
  have HZ1 := Lib.hid Z1
  have HZ2 := Lib.hid Z2
  have HB := Lib.hid hB
  have HC := Lib.hid hcnt
  have HT := Lib.hid hret
  clear hR Z1 Z2 hB hcnt hret
  conv => arg 2; whnf
  have hnb : ((l.length : Int) != (l.length : Int)) = false := by simp
  go_wp2
  go_loopg [40, 41] n (fun g s i wr => ∃ k : Nat, k ≤ n ∧ g = n - k ∧ i = .int .i64 k ∧ s = .int .i64 ((cnt R k : Nat) : Int) ∧ wr = w)
  case atStart => exact ⟨0, Nat.zero_le _, rfl, rfl, rfl, rfl⟩
  case round =>
  obtain ⟨k, hk, rfl, rfl, rfl, rfl⟩ := hrel
  have hck := cnt_le R k
  by_cases hlt : k < n
  case pos =>
    obtain ⟨b, off, rfl, _, hc⟩ := HR.out.cells k hlt
    by_cases hr : R k = -1
    case pos =>
      have hrb : (R k != -1) = false := by rw [bne_eq_false_iff_eq]; exact hr
      have hs : cnt R (k + 1) = cnt R k := by simp [cnt, hr]
      have HS := Lib.hid hs
      clear hr hs HR HZ1 HZ2
      go_wp2
      go_roundg (n - (k + 1))
      case measure => omega
      case rel => exact ⟨k + 1, by omega, rfl, by go_num, by rw [HS.out], rfl⟩
    have hrb : (R k != -1) = true := by rw [bne_iff_ne]; exact hr
    have hs : cnt R (k + 1) = cnt R k + 1 := by simp [cnt, hr]
    have HS := Lib.hid hs
    clear hr hs HR HZ1 HZ2
    go_wp2
    go_roundg (n - (k + 1))
    case measure => omega
    case rel => exact ⟨k + 1, by omega, rfl, by go_num, by rw [HS.out]; go_num, rfl⟩
  obtain rfl : k = n := by omega
  have h1 : ¬ ((l.length : Int) < ((cnt R k : Nat) : Int)) := by have := HC.out; omega
  have h2 : ¬ ((k : Int) < (l.length : Int)) := by omega
  clear HR
  go_wp2
  go_loopg [42] l.length (fun g i wx => ∃ (q d : Nat), q ≤ l.length ∧ g = l.length - q ∧ i = .int .i64 q ∧ wx = wr.drewN d)
  case atStart => exact ⟨0, 0, Nat.zero_le _, rfl, rfl, rfl⟩
  case round =>
  obtain ⟨q, d, hq, rfl, rfl, rfl⟩ := hrel
  by_cases hlt2 : q < l.length
  case neg =>
    go_wp2
    go_ret
    exact ⟨rfl, ⟨HB.out.os, HB.out.tape, HB.out.output, HB.out.size, HB.out.block⟩⟩
  obtain ⟨o, ho⟩ : ∃ o, l[q]? = some o := ⟨_, List.getElem?_eq_getElem hlt2⟩
  have hrt : decide (o.ret < o.call) = false := decide_eq_false (by have := HT.out q o ho; omega)
  have y0 : wr.cell? ⟨G1, q * 8, none⟩ = some (.int .i64 o.client) := HZ1.out.2 q o ho 0 _ rfl
  have y1 : wr.cell? ⟨G1, q * 8 + 1, none⟩ = some (.string o.key) := HZ1.out.2 q o ho 1 _ rfl
  have y2 : wr.cell? ⟨G1, q * 8 + 2, none⟩ = some (.bool o.put) := HZ1.out.2 q o ho 2 _ rfl
  have y3 : wr.cell? ⟨G1, q * 8 + 3, none⟩ = some (.int .i64 o.inv) := HZ1.out.2 q o ho 3 _ rfl
  have y4 : wr.cell? ⟨G1, q * 8 + 4, none⟩ = some (.int .i64 (o.out.getD 0)) := HZ1.out.2 q o ho 4 _ rfl
  have y5 : wr.cell? ⟨G1, q * 8 + 5, none⟩ = some (.bool o.out.isNone) := HZ1.out.2 q o ho 5 _ rfl
  have y6 : wr.cell? ⟨G1, q * 8 + 6, none⟩ = some (.int .i64 o.call) := HZ1.out.2 q o ho 6 _ rfl
  have y7 : wr.cell? ⟨G1, q * 8 + 7, none⟩ = some (.int .i64 o.ret) := HZ1.out.2 q o ho 7 _ rfl
  have x0 : wr.cell? ⟨G2, q * 8, none⟩ = some (.int .i64 o.client) := HZ2.out.2 q o ho 0 _ rfl
  have x1 : wr.cell? ⟨G2, q * 8 + 1, none⟩ = some (.string o.key) := HZ2.out.2 q o ho 1 _ rfl
  have x2 : wr.cell? ⟨G2, q * 8 + 2, none⟩ = some (.bool o.put) := HZ2.out.2 q o ho 2 _ rfl
  have x3 : wr.cell? ⟨G2, q * 8 + 3, none⟩ = some (.int .i64 o.inv) := HZ2.out.2 q o ho 3 _ rfl
  have x4 : wr.cell? ⟨G2, q * 8 + 4, none⟩ = some (.int .i64 (o.out.getD 0)) := HZ2.out.2 q o ho 4 _ rfl
  have x5 : wr.cell? ⟨G2, q * 8 + 5, none⟩ = some (.bool o.out.isNone) := HZ2.out.2 q o ho 5 _ rfl
  have x6 : wr.cell? ⟨G2, q * 8 + 6, none⟩ = some (.int .i64 o.call) := HZ2.out.2 q o ho 6 _ rfl
  have x7 : wr.cell? ⟨G2, q * 8 + 7, none⟩ = some (.int .i64 o.ret) := HZ2.out.2 q o ho 7 _ rfl
  have hne := neq34 o
  have hqi : (q : Int) < (l.length : Int) := by omega
  generalize hm : o.out.getD 0 = m4 at *
  generalize hi5 : o.out.isNone = m5 at *
  clear ho HZ1 HZ2 HT hm hi5
  obtain ⟨oc, ok, op, oi, ocl, oou, ort⟩ := o
  dsimp only at *
  go_wp2_with fail
  go_quiet (fail)
  go_wp2
  go_roundg (l.length - (q + 1))
  case measure => omega
  case rel => exact ⟨q + 1, _, by omega, rfl, by go_num, rfl⟩
end Go.Proofs.Qxb6616342a
