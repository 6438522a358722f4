/-
  'modelOps'.
-/
import Derived.Test.Qxb6616342aOuts
import Derived.Carry
import Derived.Maps.RangeWalk
import Derived.Deep.RegionWith
import Derived.RegionTactic
import Derived.BigRegion
import Derived.BigQuiet
import Derived.Deep.Draws
namespace Go.Proofs.Qxb6616342a
open Go.RowKit

theorem st_here {B : Nat → Bool} {S : Nat → ByteArray} {V R : Nat → Int} (k : Nat) : st B S V R (S k, V k) (k + 1) = (st B S V R (S k, V k) k).step (B k) (R k) := by
  simp [st]
theorem st_other {B : Nat → Bool} {S : Nat → ByteArray} {V R : Nat → Int} {k : Nat} {x : ByteArray × Int} (h : x ≠ (S k, V k)) : st B S V R x (k + 1) = st B S V R x k := by
  simp only [st]
  rw [if_neg (fun e => h e.symm)]

theorem grown_setCell (w : World) (b j : Nat) (u : Value) : w.grownBy (w.setCell ⟨b, j, none⟩ u) (some b) :=
  ⟨rfl, rfl, rfl, by simp, fun i _ hi => heap_setCell_other w ⟨b, j, none⟩ i u (fun e => hi (by simp [e]))⟩

/-- The three cells of a pending value, read. -/
theorem st_cells {w : World} {b : Nat} {s : St} (h : w.heap[b]? = some (.cells (stCells s) 53 (0, 0))) : w.cell? ⟨b, 0, none⟩ = some (.int .i64 (s.puts : Int)) ∧ w.cell? ⟨b, 1, none⟩ = some (.bool s.seen) ∧ w.cell? ⟨b, 2, none⟩ = some (.int .i64 s.by_) ∧ w.frozen? ⟨b, 0, none⟩ = false ∧ w.frozen? ⟨b, 1, none⟩ = false ∧ w.frozen? ⟨b, 2, none⟩ = false := by
  simp [World.cell?, World.frozen?, h, stCells]

theorem Pending.grow {B : Nat → Bool} {S : Nat → ByteArray} {V R : Nat → Int} {w0 wr W : World} {k : Nat} {f : ByteArray × Int → Option Nat} {c : ByteArray × Int → Array Value} (h : Pending B S V R w0 wr k f c) (hb : Below wr.heap.size wr W) : Pending B S V R w0 W k f c :=
  ⟨h.fn.kept (hb.block _ h.lt), fun x b hx => ⟨(h.blk x b hx).1, (hb.block b (lt_of_block (h.blk x b hx).2)).trans (h.blk x b hx).2⟩, h.inj, h.dom, h.below.trans (hb.mono (Nat.le_of_lt h.lt))⟩

theorem op_cells (w : World) (x0 : Int) (x1 : Bool) (x2 : ByteArray) (x3 x4 x5 : Int) : (w.alloc (.cells #[.int .i64 x0, .bool x1, .string x2, .int .i64 x3, .int .i64 x4, .int .i64 x5] 48)).cell? ⟨w.heap.size, 0, none⟩ = some (.int .i64 x0) ∧ (w.alloc (.cells #[.int .i64 x0, .bool x1, .string x2, .int .i64 x3, .int .i64 x4, .int .i64 x5] 48)).cell? ⟨w.heap.size, 1, none⟩ = some (.bool x1) ∧ (w.alloc (.cells #[.int .i64 x0, .bool x1, .string x2, .int .i64 x3, .int .i64 x4, .int .i64 x5] 48)).cell? ⟨w.heap.size, 2, none⟩ = some (.string x2) ∧ (w.alloc (.cells #[.int .i64 x0, .bool x1, .string x2, .int .i64 x3, .int .i64 x4, .int .i64 x5] 48)).cell? ⟨w.heap.size, 3, none⟩ = some (.int .i64 x3) ∧ (w.alloc (.cells #[.int .i64 x0, .bool x1, .string x2, .int .i64 x3, .int .i64 x4, .int .i64 x5] 48)).cell? ⟨w.heap.size, 4, none⟩ = some (.int .i64 x4) ∧ (w.alloc (.cells #[.int .i64 x0, .bool x1, .string x2, .int .i64 x3, .int .i64 x4, .int .i64 x5] 48)).cell? ⟨w.heap.size, 5, none⟩ = some (.int .i64 x5) := by
  simp

theorem step_false {s : St} {r : Int} (h : ((r != -1) && (!s.seen || decide (r < s.by_))) = false) : s.step false r = s := by
  unfold St.step
  simp only [Bool.false_eq_true, if_false]
  rw [if_neg]
  rintro ⟨h1, h2⟩
  rw [Bool.and_eq_false_iff] at h
  rcases h with h | h
  · rw [bne_eq_false_iff_eq] at h; exact h1 h
  · rw [Bool.or_eq_false_iff] at h
    rcases h2 with h2 | h2
    · rw [h2] at h; exact absurd h.1 (by decide)
    · exact absurd h2 (of_decide_eq_false h.2)

theorem step_true {s : St} {r : Int} (h : ((r != -1) && (!s.seen || decide (r < s.by_))) = true) : s.step false r = { s with seen := true, by_ := r } := by
  unfold St.step
  simp only [Bool.false_eq_true, if_false]
  rw [if_pos]
  rw [Bool.and_eq_true, bne_iff_ne, Bool.or_eq_true, decide_eq_true_eq] at h
  refine ⟨h.1, ?_⟩
  rcases h.2 with h2 | h2
  · exact Or.inl (by simpa using h2)
  · exact Or.inr h2

theorem info38 : (Try.prog.info? 38).map (fun i => (i.zero, i.size, i.bytes)) = some (some (.agg #[.int .i64 0, .nilIface, .int .i64 0, .nilIface, .int .i64 0]), 5, 56) := by kernel_rfl

theorem cells_new (w : World) (cs : Array Value) (blk : Nat) (h : blk = w.heap.size) (t : Nat) (u : Value) (ht : cs.toList[t]? = some u) : (w.alloc (.cells cs 38)).cell? ((⟨blk, 0, none⟩ : Addr).add t) = some u := by
  subst h
  rw [Addr.add_lit, Nat.zero_add]
  simp only [World.cell?, heap_alloc_new]
  simpa using ht

theorem owns_below {w w' : World} {base N j G : Nat} {l : List Value} (h : w.ownsRow base 38 5 (.slice (some ⟨G, 0, none⟩) N j) N l) (hb : Below w.heap.size w w') : w'.ownsRow base 38 5 (.slice (some ⟨G, 0, none⟩) N j) N l :=
  h.kept (row := none) ⟨hb.os, hb.tape, hb.output, hb.size, fun i hi _ => hb.block i hi⟩ (Or.inr (by simp [Value.ownBlock]))

theorem draws_below {B : Nat} {a w : World} (h : Below B a w) (n : Nat) : Below B a (w.drewN n) := ⟨h.os, h.tape, h.output, h.size, h.block⟩

def zero53 : Array Value := #[.int .i64 0, .bool false, .int .i64 0]

set_option maxHeartbeats 4000000 in
set_option maxRecDepth 100000 in
theorem model_any (w : World) (p : Nat) (ao : Option Addr) (n cap : Nat) (A : Nat → Int) (B : Nat → Bool) (S : Nat → ByteArray) (V C R : Nat → Int) (hp : w.cell? ⟨p, 0, none⟩ = some (.slice ao n cap)) (hO : OpsAt w ao n A B S V C R) (hn : n ≤ 4097) :
    Calls Try.prog 9 #[.pointer (some ⟨p, 0, none⟩)] w fun e w' => ∃ G N : Nat, e = .returned (.slice (some ⟨G, 0, none⟩) N n) ∧ Below w.heap.size w w' ∧ w.heap.size ≤ G ∧ N = (outs A B S V C R n n).length ∧ w'.ownsRow w.heap.size 38 5 (.slice (some ⟨G, 0, none⟩) N n) N (flatOut (outs A B S V C R n n)) := by
  have HO := Lib.hid hO
  have HP := Lib.hid hp
  have ANS := Lib.hid answered_any
  clear hO
  have hmm := @run_makeMap Try.prog
  have hp' : (w.alloc (.map #[] 0)).cell? ⟨p, 0, none⟩ = some (.slice ao n cap) := (World.cell?_of_block (Below.heap_alloc w _ p (by simpa using World.block_lt_of_cell? w _ hp))).trans hp
  go_enter Try.func9, Try.ntmps9
  go_wp2
  clear hmm hp'
  go_loopg [22] n (fun g i wr => ∃ (k : Nat) (f : ByteArray × Int → Option Nat), k ≤ n ∧ g = n - k ∧ i = .int .i64 k ∧ Pending B S V R w wr k f (fun _ => zero53))
  case atStart => exact ⟨0, _, Nat.zero_le _, rfl, rfl, Pending.start w zero53⟩
  case round =>
    obtain ⟨k, f, hk, rfl, rfl, hpd⟩ := hrel
    have HPD := Lib.hid hpd
    by_cases hlt : k < n
    case pos =>
      obtain ⟨g, rfl, _, d0, d1, d2, d3, d4, d5⟩ := (HO.out.below hpd.below).cells k hlt
      clear hpd HO
      cases hb : B k
      case false =>
        rw [hb] at d1
        have FIN := Lib.hid ((HPD.out.skip (fun h => by rw [hb] at h; exact absurd h.1 (by decide))).alloc (.cells #[.int .i64 (A k), .bool false, .string (S k), .int .i64 (V k), .int .i64 (C k), .int .i64 (R k)] 48))
        clear HPD hb
        go_wp2_with fail
        go_roundg (n - (k + 1))
        case measure => omega
        case rel => exact ⟨k + 1, f, by omega, rfl, by go_num, FIN.out⟩
      rw [hb] at d1
      by_cases hr : R k = -1
      case neg =>
        have hrb : (R k != -1) = true := by rw [bne_iff_ne]; exact hr
        have FIN := Lib.hid (((HPD.out.skip (fun h => hr h.2)).alloc (.cells #[.int .i64 (A k), .bool true, .string (S k), .int .i64 (V k), .int .i64 (C k), .int .i64 (R k)] 48)).alloc (.cells #[.int .i64 (A k), .bool true, .string (S k), .int .i64 (V k), .int .i64 (C k), .int .i64 (R k)] 48))
        clear HPD hb hr
        go_wp2_with (go_at_call 10; refine (ANS.out _ _ _ _ _ _ _).mono ?_; rintro e w'' ⟨rfl, hw⟩; subst w'')
        go_roundg (n - (k + 1))
        case measure => omega
        case rel => exact ⟨k + 1, f, by omega, rfl, by go_num, FIN.out⟩
      have hrb : (R k != -1) = false := by rw [bne_eq_false_iff_eq]; exact hr
      have HQ := Lib.hid ((HPD.out.alloc (.cells #[.int .i64 (A k), .bool true, .string (S k), .int .i64 (V k), .int .i64 (C k), .int .i64 (R k)] 48)).alloc (.cells #[.int .i64 (A k), .bool true, .string (S k), .int .i64 (V k), .int .i64 (C k), .int .i64 (R k)] 48))
      clear HPD hb hr
      go_wp2_with (first | (go_at_call 10; refine (ANS.out _ _ _ _ _ _ _).mono ?_; rintro e w'' ⟨rfl, hw⟩; subst w'') | (at_mapUpdate; refine wpList_mapUpdate_fn _ rfl _ _ _ rfl w.heap.size f rfl (HQ.out.alloc (.cells zero53 53)).fn (S k, V k) _ rfl rfl ?_; intro w2 hm2 hg2))
      have FIN := Lib.hid (HQ.out.put (by simpa using hm2) hg2)
      clear HQ hm2 hg2
      go_roundg (n - (k + 1))
      case measure => omega
      case rel => exact ⟨k + 1, _, by omega, rfl, by go_num, FIN.out⟩
    obtain rfl : k = n := by omega
    have hp2 : wr.cell? ⟨p, 0, none⟩ = some (.slice ao k cap) := (hpd.below.cell (p := ⟨p, 0, none⟩) (by simpa using World.block_lt_of_cell? w _ HP.out)).trans HP.out
    clear hpd
    go_wp2
    go_loopg [47] k (fun g i wr => ∃ (j : Nat), j ≤ k ∧ g = k - j ∧ i = .int .i64 j ∧ Pending B S V R w wr k f (fun x => stCells (st B S V R x j)))
    case atStart => exact ⟨0, Nat.zero_le _, rfl, rfl, HPD.out⟩
    clear HPD hp2
    case round =>
    obtain ⟨j, hj, rfl, rfl, hpd⟩ := hrel
    have HPD := Lib.hid hpd
    by_cases hlt : j < k
    case pos =>
      obtain ⟨g, rfl, _, d0, d1, d2, d3, d4, d5⟩ := (HO.out.below hpd.below).cells j hlt
      clear hpd HO HP
      cases hf : f (S j, V j) with
      | none =>
        have hu : gives (f (S j, V j)) = .pointer none := by rw [hf]; rfl
        have HU := Lib.hid hu
        have HQ := Lib.hid (HPD.out.alloc (.cells #[.int .i64 (A j), .bool (B j), .string (S j), .int .i64 (V j), .int .i64 (C j), .int .i64 (R j)] 48))
        have FIN := Lib.hid (HQ.out.alike (c' := fun x => stCells (st B S V R x (j + 1))) (fun x b hx => by
          rw [st_other (fun e => by rw [e, hf] at hx; cases hx)]))
        clear HPD hf hu
        go_wp2_with (at_lookup; refine wpList_lookup_fn _ rfl _ _ rfl w.heap.size f rfl HQ.out.fn (S j, V j) rfl _ HU.out ?_)
        go_roundg (k - (j + 1))
        case measure => omega
        case rel => exact ⟨j + 1, by omega, rfl, by go_num, FIN.out⟩
      | some b =>
      have hu : gives (f (S j, V j)) = .pointer (some ⟨b, 0, none⟩) := by rw [hf]; rfl
      have HU := Lib.hid hu
      have HF := Lib.hid hf
      have HQ := Lib.hid (HPD.out.alloc (.cells #[.int .i64 (A j), .bool (B j), .string (S j), .int .i64 (V j), .int .i64 (C j), .int .i64 (R j)] 48))
      obtain ⟨s0, s1, s2, z0, z1, z2⟩ := st_cells (HQ.out.blk _ b hf).2
      have hqb := st_puts B S V R (S j, V j) j
      clear HPD hf hu
      cases hb : B j with
      | true =>
        rw [hb] at d1 s0 s1 s2 z0 z1 z2 HQ
        have FIN := Lib.hid (HQ.out.turn HF.out (grown_setCell _ b 0 (.int .i64 ((st B S V R (S j, V j) j).puts + 1 : Int))) (c' := fun x => stCells (st B S V R x (j + 1))) (by
          rw [heap_setCell_same _ b 0 _ 53 _ (HQ.out.blk _ b HF.out).2]
          simp only [st_here, hb, St.step, if_true]
          rfl) (fun x hx => by rw [st_other hx]))
        clear hb
        go_wp2_with (at_lookup; refine wpList_lookup_fn _ rfl _ _ rfl w.heap.size f rfl HQ.out.fn (S j, V j) rfl _ HU.out ?_)
        go_roundg (k - (j + 1))
        case measure => omega
        case rel => exact ⟨j + 1, by omega, rfl, by go_num, FIN.out⟩
      | false =>
      rw [hb] at d1 s0 s1 s2 z0 z1 z2 HQ
      have hmx : Try.prog.follows .mixedOrders = true := by kernel_rfl
      obtain ⟨q0, q1, q2, q3, q4, q5⟩ := op_cells wr (A j) false (S j) (V j) (C j) (R j)
      have HB := Lib.hid hb
      clear hb
      go_wp2_with (at_lookup; refine wpList_lookup_fn _ rfl _ _ rfl w.heap.size f rfl HQ.out.fn (S j, V j) rfl _ HU.out ?_)
      refine region15 { q := wr.heap.size, b := b, x0 := A j, x1 := false, x2 := S j, x3 := V j, x4 := C j, x5 := R j, seen := (st B S V R (S j, V j) j).seen, y := (st B S V R (S j, V j) j).by_, ans := (R j != -1) } (by kernel_rfl) (by kernel_rfl) (by kernel_rfl) (by kernel_rfl) hmx ⟨rfl, rfl, rfl, q0, q1, q2, q3, q4, q5, s1, s2, rfl⟩ ?_
      intro F W hW
      dsimp only at hW ⊢
      have HW := Lib.hid (HQ.out.grow hW)
      have p5 := below_cell hW q5
      have p0 := below_cell hW s0
      have p1 := below_cell hW s1
      have p2 := below_cell hW s2
      have t1 : W.frozen? ⟨b, 1, none⟩ = false := (hW.frozen (p := ⟨b, 1, none⟩) (by simpa using World.block_lt_of_cell? _ _ s1)).trans z1
      have t2 : W.frozen? ⟨b, 2, none⟩ = false := (hW.frozen (p := ⟨b, 2, none⟩) (by simpa using World.block_lt_of_cell? _ _ s2)).trans z2
      clear hW q0 q1 q2 q3 q4 q5 s0 s1 s2 z0 z1 z2 HQ
      simp only [puts, List.foldl]
      go_frame
      generalize hcd : ((R j != -1) && (!(st B S V R (S j, V j) j).seen || decide (R j < (st B S V R (S j, V j) j).by_))) = cd
      cases cd with
      | false =>
        have FIN := Lib.hid (HW.out.alike (c' := fun x => stCells (st B S V R x (j + 1))) (fun x b' hx => by
          by_cases e : x = (S j, V j)
          · subst e
            rw [st_here, HB.out, step_false hcd]
          · rw [st_other e]))
        clear hcd HW HB p0 p1 p2 p5 t1 t2
        go_wp2
        go_roundg (k - (j + 1))
        case measure => omega
        case rel => exact ⟨j + 1, by omega, rfl, by go_num, FIN.out⟩
      | true =>
        have hcc : ∀ x, x ≠ (S j, V j) → stCells (st B S V R x (j + 1)) = stCells (st B S V R x j) := fun x hx => by rw [st_other hx]
        have hkey : st B S V R (S j, V j) (j + 1) = { st B S V R (S j, V j) j with seen := true, by_ := R j } := by rw [st_here, HB.out, step_true hcd]
        have FIN12 := Lib.hid (HW.out.turn HF.out (grownBy_trans (grown_setCell W b 1 (.bool true)) (grown_setCell _ b 2 (.int .i64 (R j)))) (c' := fun x => stCells (st B S V R x (j + 1))) (by
          rw [heap_setCell_same _ b 2 _ 53 _ (heap_setCell_same _ b 1 _ 53 _ (HW.out.blk _ b HF.out).2)]
          rw [hkey]
          rfl) hcc)
        have FIN21 := Lib.hid (HW.out.turn HF.out (grownBy_trans (grown_setCell W b 2 (.int .i64 (R j))) (grown_setCell _ b 1 (.bool true))) (c' := fun x => stCells (st B S V R x (j + 1))) (by
          rw [heap_setCell_same _ b 1 _ 53 _ (heap_setCell_same _ b 2 _ 53 _ (HW.out.blk _ b HF.out).2)]
          rw [hkey]
          rfl) hcc)
        clear hcd HW HB hcc hkey HF HU ANS
        go_wp2_with fail
        go_region
        go_wp2
        go_roundg (k - (j + 1))
        case measure => omega
        case rel => exact ⟨j + 1, by omega, rfl, by go_num, FIN12.out.drew⟩
    obtain rfl : j = k := by omega
    have hp2 : wr.cell? ⟨p, 0, none⟩ = some (.slice ao j cap) := (hpd.below.cell (p := ⟨p, 0, none⟩) (by simpa using World.block_lt_of_cell? w _ HP.out)).trans HP.out
    have hlt0 := hpd.lt
    obtain ⟨i0, hi0, hz0, hz1, hz2⟩ := info_parts info38
    clear hpd
    go_wp2_with (at_make; refine wpList_make_own _ rfl _ _ 35 rfl w.heap.size 38 i0 _ 5 Try.underlying35 hi0 hz0 hz1 _ _ _ j rfl rfl (by omega) (by rw [hz2]; omega) (by unfold maxLen; omega) (by omega) ?_; intro w1 hown1 hgr1; have hp3 : w1.cell? ⟨p, 0, none⟩ = some (.slice ao j cap) := hgr1.cell hp2 (by simp))
    have HG : Hid (w.heap.size < wr.heap.size ∧ ∀ x b, f x = some b → b < wr.heap.size) := ⟨hlt0, fun x b hx => lt_of_block (HPD.out.blk x b hx).2⟩
    have HPD1 : Hid (Pending B S V R w w1 j f (fun x => stCells (st B S V R x j))) := HPD.out.grow ⟨hgr1.os, hgr1.tape, hgr1.output, hgr1.size, fun i hi => hgr1.block i hi (by simp)⟩
    clear HPD
    have Gz : ∀ G, G = wr.heap.size → True := fun _ _ => trivial
    clear Gz
    generalize wr.heap.size = G at *
    go_loopg [9, 110] j (fun g sl i wr => ∃ (q N : Nat), q ≤ j ∧ g = j - q ∧ i = .int .i64 q ∧ N = (outs A B S V C R j q).length ∧ sl = .slice (some ⟨G, 0, none⟩) N j ∧ wr.ownsRow w.heap.size 38 5 (.slice (some ⟨G, 0, none⟩) N j) N (flatOut (outs A B S V C R j q)) ∧ Pending B S V R w wr j f (fun x => stCells (st B S V R x j)))
    case atStart => exact ⟨0, 0, Nat.zero_le _, rfl, rfl, rfl, rfl, hown1, HPD1.out⟩
    clear HPD1 hown1 hgr1 hp3 hp2
    case round =>
    obtain ⟨q, N, hq, rfl, rfl, hN, rfl, hown, hpd⟩ := hrel
    have HPD := Lib.hid hpd
    have HOW := Lib.hid hown
    have HN := Lib.hid hN
    by_cases hlt : q < j
    case neg =>
      obtain rfl : q = j := by omega
      clear hpd hown hN HO ANS
      go_wp2
      go_ret
      exact ⟨G, N, rfl, HPD.out.below, Nat.le_of_lt HG.out.1, HN.out, HOW.out⟩
    obtain ⟨g, rfl, _, d0, d1, d2, d3, d4, d5⟩ := (HO.out.below hpd.below).cells q hlt
    clear hpd hown hN HO HP
    have APP : Hid (∀ wx, Below wr.heap.size wr wx → wx.ownsRow w.heap.size 38 5 (.slice (some ⟨G, 0, none⟩) N j) N (flatOut (outs A B S V C R j q))) := fun wx h => owns_below HOW.out h
    have PX : Hid (∀ wx, Below wr.heap.size wr wx → Pending B S V R w wx j f (fun x => stCells (st B S V R x j))) := fun wx h => HPD.out.grow h
    have hNq : N ≤ q := by rw [HN.out]; exact outs_le A B S V C R j q
    clear HOW
    by_cases hr : R q = -1
    case neg =>
      have hrb : (R q != -1) = true := by rw [bne_iff_ne]; exact hr
      cases hb : B q
      case true =>
        rw [hb] at d1
        have EM := Lib.hid (show emit A B S V C R j q = some ⟨A q, S q, true, V q, C q, none, R q⟩ by simp [emit, hr, hb])
        clear hb hr HPD
        go_wp2_with (first | (go_at_call 10; refine (ANS.out _ _ _ _ _ _ _).mono ?_; rintro e w'' ⟨rfl, hw⟩; subst w'') | (at_builtin; refine wpList_append_fits _ rfl _ _ 35 rfl w.heap.size 38 i0 5 Try.underlying35 hi0 hz1 G N j _ rfl (APP.out _ (by (repeat (first | exact Below.refl _ _ | refine Below.alloc ?_ (by simp <;> omega) _ | refine Below.setCell ?_ (by simp <;> omega) _ | refine Below.drew ?_ | refine draws_below ?_ _)))) ⟨_, 0, none⟩ 1 1 (outCells ⟨A q, S q, true, V q, C q, none, R q⟩) rfl rfl (cells_new _ _ _ (by simp)) (outCells_one _) (by omega) ?_; intro w2 hown2 hgr2))
        have FIN : Hid (w2.ownsRow w.heap.size 38 5 (.slice (some ⟨G, 0, none⟩) (N + 1) j) (N + 1) (flatOut (outs A B S V C R j (q + 1))) ∧ Pending B S V R w w2 j f (fun x => stCells (st B S V R x j)) ∧ N + 1 = (outs A B S V C R j (q + 1)).length) := by
          refine ⟨?_, (PX.out _ (by (repeat (first | exact Below.refl _ _ | refine Below.alloc ?_ (by simp <;> omega) _ | refine Below.setCell ?_ (by simp <;> omega) _ | refine Below.drew ?_ | refine draws_below ?_ _)))).other hgr2 HG.out.1 HG.out.2, ?_⟩
          · rw [outs_some _ _ _ _ _ _ EM.out, flatOut_snoc]
            exact hown2
          · rw [outs_some _ _ _ _ _ _ EM.out, List.length_append, ← HN.out]
            rfl
        clear hown2 hgr2 APP PX HN EM
        go_roundg (j - (q + 1))
        case measure => omega
        case rel => exact ⟨q + 1, N + 1, by omega, rfl, by go_num, FIN.out.2.2, rfl, FIN.out.1, FIN.out.2.1⟩
      case false =>
        rw [hb] at d1
        have EM := Lib.hid (show emit A B S V C R j q = some ⟨A q, S q, false, 0, C q, some (V q), R q⟩ by simp [emit, hr, hb])
        clear hb hr HPD
        go_wp2_with (first | (go_at_call 10; refine (ANS.out _ _ _ _ _ _ _).mono ?_; rintro e w'' ⟨rfl, hw⟩; subst w'') | (at_builtin; refine wpList_append_fits _ rfl _ _ 35 rfl w.heap.size 38 i0 5 Try.underlying35 hi0 hz1 G N j _ rfl (APP.out _ (by (repeat (first | exact Below.refl _ _ | refine Below.alloc ?_ (by simp <;> omega) _ | refine Below.setCell ?_ (by simp <;> omega) _ | refine Below.drew ?_ | refine draws_below ?_ _)))) ⟨_, 0, none⟩ 1 1 (outCells ⟨A q, S q, false, 0, C q, some (V q), R q⟩) rfl rfl (cells_new _ _ _ (by simp)) (outCells_one _) (by omega) ?_; intro w2 hown2 hgr2))
        have FIN : Hid (w2.ownsRow w.heap.size 38 5 (.slice (some ⟨G, 0, none⟩) (N + 1) j) (N + 1) (flatOut (outs A B S V C R j (q + 1))) ∧ Pending B S V R w w2 j f (fun x => stCells (st B S V R x j)) ∧ N + 1 = (outs A B S V C R j (q + 1)).length) := by
          refine ⟨?_, (PX.out _ (by (repeat (first | exact Below.refl _ _ | refine Below.alloc ?_ (by simp <;> omega) _ | refine Below.setCell ?_ (by simp <;> omega) _ | refine Below.drew ?_ | refine draws_below ?_ _)))).other hgr2 HG.out.1 HG.out.2, ?_⟩
          · rw [outs_some _ _ _ _ _ _ EM.out, flatOut_snoc]
            exact hown2
          · rw [outs_some _ _ _ _ _ _ EM.out, List.length_append, ← HN.out]
            rfl
        clear hown2 hgr2 APP PX HN EM
        go_roundg (j - (q + 1))
        case measure => omega
        case rel => exact ⟨q + 1, N + 1, by omega, rfl, by go_num, FIN.out.2.2, rfl, FIN.out.1, FIN.out.2.1⟩
    have hrb : (R q != -1) = false := by rw [bne_eq_false_iff_eq]; exact hr
    cases hb : B q
    case false =>
      rw [hb] at d1
      have EM := Lib.hid (show emit A B S V C R j q = none by simp [emit, hr, hb])
      clear hb hr HPD
      cases hf : f (S q, V q) with
      | none =>
        have HU : Hid (gives (f (S q, V q)) = .pointer none) := by show gives _ = _; rw [hf]; rfl
        clear hf
        have EMN := Lib.hid (outs_none A B S V C R EM.out)
        go_wp2_with (first | (go_at_call 10; refine (ANS.out _ _ _ _ _ _ _).mono ?_; rintro e w'' ⟨rfl, hw⟩; subst w'') | (at_lookup; refine wpList_lookup_fn _ rfl _ _ rfl w.heap.size f rfl (PX.out _ (by (repeat (first | exact Below.refl _ _ | refine Below.alloc ?_ (by simp <;> omega) _ | refine Below.setCell ?_ (by simp <;> omega) _ | refine Below.drew ?_ | refine draws_below ?_ _)))).fn (S q, V q) rfl _ HU.out ?_))
        clear EM
        go_roundg (j - (q + 1))
        case measure => omega
        case rel => exact ⟨q + 1, N, by omega, rfl, by go_num, by rw [EMN.out]; exact HN.out, rfl, by rw [EMN.out]; exact APP.out _ (by (repeat (first | exact Below.refl _ _ | refine Below.alloc ?_ (by simp <;> omega) _ | refine Below.setCell ?_ (by simp <;> omega) _ | refine Below.drew ?_ | refine draws_below ?_ _))), PX.out _ (by (repeat (first | exact Below.refl _ _ | refine Below.alloc ?_ (by simp <;> omega) _ | refine Below.setCell ?_ (by simp <;> omega) _ | refine Below.drew ?_ | refine draws_below ?_ _)))⟩
      | some b =>
        have HU : Hid (gives (f (S q, V q)) = .pointer (some ⟨b, 0, none⟩)) := by show gives _ = _; rw [hf]; rfl
        clear hf
        have EMN := Lib.hid (outs_none A B S V C R EM.out)
        go_wp2_with (first | (go_at_call 10; refine (ANS.out _ _ _ _ _ _ _).mono ?_; rintro e w'' ⟨rfl, hw⟩; subst w'') | (at_lookup; refine wpList_lookup_fn _ rfl _ _ rfl w.heap.size f rfl (PX.out _ (by (repeat (first | exact Below.refl _ _ | refine Below.alloc ?_ (by simp <;> omega) _ | refine Below.setCell ?_ (by simp <;> omega) _ | refine Below.drew ?_ | refine draws_below ?_ _)))).fn (S q, V q) rfl _ HU.out ?_))
        clear EM
        go_roundg (j - (q + 1))
        case measure => omega
        case rel => exact ⟨q + 1, N, by omega, rfl, by go_num, by rw [EMN.out]; exact HN.out, rfl, by rw [EMN.out]; exact APP.out _ (by (repeat (first | exact Below.refl _ _ | refine Below.alloc ?_ (by simp <;> omega) _ | refine Below.setCell ?_ (by simp <;> omega) _ | refine Below.drew ?_ | refine draws_below ?_ _))), PX.out _ (by (repeat (first | exact Below.refl _ _ | refine Below.alloc ?_ (by simp <;> omega) _ | refine Below.setCell ?_ (by simp <;> omega) _ | refine Below.drew ?_ | refine draws_below ?_ _)))⟩
    rw [hb] at d1
    obtain ⟨b, hf⟩ := Option.isSome_iff_exists.1 (HPD.out.dom q hlt hb hr)
    have HU : Hid (gives (f (S q, V q)) = .pointer (some ⟨b, 0, none⟩)) := by show gives _ = _; rw [hf]; rfl
    have hwX : Below wr.heap.size wr (((wr.alloc (.cells #[.int .i64 (A q), .bool true, .string (S q), .int .i64 (V q), .int .i64 (C q), .int .i64 (R q)] 48)).alloc (.cells #[.string (S q), .bool true, .int .i64 (V q)] 40)).alloc (.cells #[.int .i64 (A q), .bool true, .string (S q), .int .i64 (V q), .int .i64 (C q), .int .i64 (R q)] 48)) := by (repeat (first | exact Below.refl _ _ | refine Below.alloc ?_ (by simp <;> omega) _ | refine Below.setCell ?_ (by simp <;> omega) _ | refine Below.drew ?_ | refine draws_below ?_ _))
    obtain ⟨s0, s1, s2, _, _, _⟩ := st_cells ((PX.out _ hwX).blk _ b hf).2
    clear hwX
    cases hsn : (st B S V R (S q, V q) j).seen
    case false =>
      rw [hsn] at s1
      have EM := Lib.hid (show emit A B S V C R j q = none by simp [emit, hr, hsn])
      clear hb hr HPD hf hsn
      have EMN := Lib.hid (outs_none A B S V C R EM.out)
      go_wp2_with (first | (go_at_call 10; refine (ANS.out _ _ _ _ _ _ _).mono ?_; rintro e w'' ⟨rfl, hw⟩; subst w'') | (at_lookup; refine wpList_lookup_fn _ rfl _ _ rfl w.heap.size f rfl (PX.out _ (by (repeat (first | exact Below.refl _ _ | refine Below.alloc ?_ (by simp <;> omega) _ | refine Below.setCell ?_ (by simp <;> omega) _ | refine Below.drew ?_ | refine draws_below ?_ _)))).fn (S q, V q) rfl _ HU.out ?_))
      clear EM
      go_roundg (j - (q + 1))
      case measure => omega
      case rel => exact ⟨q + 1, N, by omega, rfl, by go_num, by rw [EMN.out]; exact HN.out, rfl, by rw [EMN.out]; exact APP.out _ (by (repeat (first | exact Below.refl _ _ | refine Below.alloc ?_ (by simp <;> omega) _ | refine Below.setCell ?_ (by simp <;> omega) _ | refine Below.drew ?_ | refine draws_below ?_ _))), PX.out _ (by (repeat (first | exact Below.refl _ _ | refine Below.alloc ?_ (by simp <;> omega) _ | refine Below.setCell ?_ (by simp <;> omega) _ | refine Below.drew ?_ | refine draws_below ?_ _)))⟩
    rw [hsn] at s1
    by_cases hpt : (st B S V R (S q, V q) j).puts = 1
    case neg =>
      have hpb : (((st B S V R (S q, V q) j).puts : Int) == 1) = false := by rw [beq_eq_false_iff_ne]; omega
      have EM := Lib.hid (show emit A B S V C R j q = some ⟨A q, S q, true, V q, C q, none, 9223372036854775807⟩ by simp [emit, hr, hb, hsn, retOf, hpt])
      clear hb hr HPD hf hsn hpt
      go_wp2_with (first | (go_at_call 10; refine (ANS.out _ _ _ _ _ _ _).mono ?_; rintro e w'' ⟨rfl, hw⟩; subst w'') | (at_lookup; refine wpList_lookup_fn _ rfl _ _ rfl w.heap.size f rfl (PX.out _ (by (repeat (first | exact Below.refl _ _ | refine Below.alloc ?_ (by simp <;> omega) _ | refine Below.setCell ?_ (by simp <;> omega) _ | refine Below.drew ?_ | refine draws_below ?_ _)))).fn (S q, V q) rfl _ HU.out ?_) | (at_builtin; refine wpList_append_fits _ rfl _ _ 35 rfl w.heap.size 38 i0 5 Try.underlying35 hi0 hz1 G N j _ rfl (APP.out _ (by (repeat (first | exact Below.refl _ _ | refine Below.alloc ?_ (by simp <;> omega) _ | refine Below.setCell ?_ (by simp <;> omega) _ | refine Below.drew ?_ | refine draws_below ?_ _)))) ⟨_, 0, none⟩ 1 1 (outCells ⟨A q, S q, true, V q, C q, none, 9223372036854775807⟩) rfl rfl (cells_new _ _ _ (by simp)) (outCells_one _) (by omega) ?_; intro w2 hown2 hgr2))
      have FIN : Hid (w2.ownsRow w.heap.size 38 5 (.slice (some ⟨G, 0, none⟩) (N + 1) j) (N + 1) (flatOut (outs A B S V C R j (q + 1))) ∧ Pending B S V R w w2 j f (fun x => stCells (st B S V R x j)) ∧ N + 1 = (outs A B S V C R j (q + 1)).length) := by
        refine ⟨?_, (PX.out _ (by (repeat (first | exact Below.refl _ _ | refine Below.alloc ?_ (by simp <;> omega) _ | refine Below.setCell ?_ (by simp <;> omega) _ | refine Below.drew ?_ | refine draws_below ?_ _)))).other hgr2 HG.out.1 HG.out.2, ?_⟩
        · rw [outs_some _ _ _ _ _ _ EM.out, flatOut_snoc]
          exact hown2
        · rw [outs_some _ _ _ _ _ _ EM.out, List.length_append, ← HN.out]
          rfl
      clear hown2 hgr2 APP PX HN EM
      go_roundg (j - (q + 1))
      case measure => omega
      case rel => exact ⟨q + 1, N + 1, by omega, rfl, by go_num, FIN.out.2.2, rfl, FIN.out.1, FIN.out.2.1⟩
    have hpb : (((st B S V R (S q, V q) j).puts : Int) == 1) = true := by rw [beq_iff_eq]; omega
    by_cases hmc : (st B S V R (S q, V q) j).by_ < C q
    case pos =>
      have EM := Lib.hid (show emit A B S V C R j q = some ⟨A q, S q, true, V q, C q, none, C q⟩ by simp [emit, hr, hb, hsn, retOf, hpt, hmc])
      clear hb hr HPD hf hsn hpt
      go_wp2_with (first | (go_at_call 10; refine (ANS.out _ _ _ _ _ _ _).mono ?_; rintro e w'' ⟨rfl, hw⟩; subst w'') | (at_lookup; refine wpList_lookup_fn _ rfl _ _ rfl w.heap.size f rfl (PX.out _ (by (repeat (first | exact Below.refl _ _ | refine Below.alloc ?_ (by simp <;> omega) _ | refine Below.setCell ?_ (by simp <;> omega) _ | refine Below.drew ?_ | refine draws_below ?_ _)))).fn (S q, V q) rfl _ HU.out ?_))
      go_quiet (fail)
      go_wp2_with (first | (go_at_call 10; refine (ANS.out _ _ _ _ _ _ _).mono ?_; rintro e w'' ⟨rfl, hw⟩; subst w'') | (at_builtin; refine wpList_append_fits _ rfl _ _ 35 rfl w.heap.size 38 i0 5 Try.underlying35 hi0 hz1 G N j _ rfl (APP.out _ (by (repeat (first | exact Below.refl _ _ | refine Below.alloc ?_ (by simp <;> omega) _ | refine Below.setCell ?_ (by simp <;> omega) _ | refine Below.drew ?_ | refine draws_below ?_ _)))) ⟨_, 0, none⟩ 1 1 (outCells ⟨A q, S q, true, V q, C q, none, C q⟩) rfl rfl (cells_new _ _ _ (by simp)) (outCells_one _) (by omega) ?_; intro w2 hown2 hgr2))
      have FIN : Hid (w2.ownsRow w.heap.size 38 5 (.slice (some ⟨G, 0, none⟩) (N + 1) j) (N + 1) (flatOut (outs A B S V C R j (q + 1))) ∧ Pending B S V R w w2 j f (fun x => stCells (st B S V R x j)) ∧ N + 1 = (outs A B S V C R j (q + 1)).length) := by
        refine ⟨?_, (PX.out _ (by (repeat (first | exact Below.refl _ _ | refine Below.alloc ?_ (by simp <;> omega) _ | refine Below.setCell ?_ (by simp <;> omega) _ | refine Below.drew ?_ | refine draws_below ?_ _)))).other hgr2 HG.out.1 HG.out.2, ?_⟩
        · rw [outs_some _ _ _ _ _ _ EM.out, flatOut_snoc]
          exact hown2
        · rw [outs_some _ _ _ _ _ _ EM.out, List.length_append, ← HN.out]
          rfl
      clear hown2 hgr2 APP PX HN EM
      go_roundg (j - (q + 1))
      case measure => omega
      case rel => exact ⟨q + 1, N + 1, by omega, rfl, by go_num, FIN.out.2.2, rfl, FIN.out.1, FIN.out.2.1⟩
    case neg =>
      have EM := Lib.hid (show emit A B S V C R j q = some ⟨A q, S q, true, V q, C q, none, (st B S V R (S q, V q) j).by_⟩ by simp [emit, hr, hb, hsn, retOf, hpt, hmc])
      clear hb hr HPD hf hsn hpt
      go_wp2_with (first | (go_at_call 10; refine (ANS.out _ _ _ _ _ _ _).mono ?_; rintro e w'' ⟨rfl, hw⟩; subst w'') | (at_lookup; refine wpList_lookup_fn _ rfl _ _ rfl w.heap.size f rfl (PX.out _ (by (repeat (first | exact Below.refl _ _ | refine Below.alloc ?_ (by simp <;> omega) _ | refine Below.setCell ?_ (by simp <;> omega) _ | refine Below.drew ?_ | refine draws_below ?_ _)))).fn (S q, V q) rfl _ HU.out ?_))
      go_quiet (fail)
      go_wp2_with (first | (go_at_call 10; refine (ANS.out _ _ _ _ _ _ _).mono ?_; rintro e w'' ⟨rfl, hw⟩; subst w'') | (at_builtin; refine wpList_append_fits _ rfl _ _ 35 rfl w.heap.size 38 i0 5 Try.underlying35 hi0 hz1 G N j _ rfl (APP.out _ (by (repeat (first | exact Below.refl _ _ | refine Below.alloc ?_ (by simp <;> omega) _ | refine Below.setCell ?_ (by simp <;> omega) _ | refine Below.drew ?_ | refine draws_below ?_ _)))) ⟨_, 0, none⟩ 1 1 (outCells ⟨A q, S q, true, V q, C q, none, (st B S V R (S q, V q) j).by_⟩) rfl rfl (cells_new _ _ _ (by simp)) (outCells_one _) (by omega) ?_; intro w2 hown2 hgr2))
      have FIN : Hid (w2.ownsRow w.heap.size 38 5 (.slice (some ⟨G, 0, none⟩) (N + 1) j) (N + 1) (flatOut (outs A B S V C R j (q + 1))) ∧ Pending B S V R w w2 j f (fun x => stCells (st B S V R x j)) ∧ N + 1 = (outs A B S V C R j (q + 1)).length) := by
        refine ⟨?_, (PX.out _ (by (repeat (first | exact Below.refl _ _ | refine Below.alloc ?_ (by simp <;> omega) _ | refine Below.setCell ?_ (by simp <;> omega) _ | refine Below.drew ?_ | refine draws_below ?_ _)))).other hgr2 HG.out.1 HG.out.2, ?_⟩
        · rw [outs_some _ _ _ _ _ _ EM.out, flatOut_snoc]
          exact hown2
        · rw [outs_some _ _ _ _ _ _ EM.out, List.length_append, ← HN.out]
          rfl
      clear hown2 hgr2 APP PX HN EM
      go_roundg (j - (q + 1))
      case measure => omega
      case rel => exact ⟨q + 1, N + 1, by omega, rfl, by go_num, FIN.out.2.2, rfl, FIN.out.1, FIN.out.2.1⟩
end Go.Proofs.Qxb6616342a
