/-
  'ZZModelOps': what it hands out, cell by cell.
-/
import Derived.Test.Qxb6616342aModel1
import Derived.Test.Qxb6616342aLay
import Derived.Test.Qxb6616342aAssert
namespace Go.Proofs.Qxb6616342a
open Go.RowKit

theorem info34 : (Try.prog.info? 34).map (fun i => (i.zero, i.size, i.bytes)) = some (some (.agg #[.int .i64 0, .string ByteArray.empty, .bool false, .int .i64 0, .int .i64 0, .bool false, .int .i64 0, .int .i64 0]), 8, 72) := by kernel_rfl

/-- The eight cells of a ZZOp. -/
def zzCells (o : Out) : List Value := [.int .i64 o.client, .string o.key, .bool o.put, .int .i64 o.inv, .int .i64 (o.out.getD 0), .bool o.out.isNone, .int .i64 o.call, .int .i64 o.ret]

/-- The row of block g holds l. -/
def ZRow (w : World) (g : Nat) (l : List Out) : Prop := g < w.heap.size ∧ ∀ i o, l[i]? = some o → ∀ t u, (zzCells o)[t]? = some u → w.cell? ⟨g, i * 8 + t, none⟩ = some u

theorem flatOut_length (l : List Out) : (flatOut l).length = l.length * 5 := by
  induction l with
  | nil => rfl
  | cons o l ih => simp only [flatOut, List.flatMap_cons, List.length_append, outCells_length, List.length_cons] at *; omega

theorem flatOut_get : ∀ (l : List Out) (i : Nat) (o : Out), l[i]? = some o → ∀ t, t < 5 → (flatOut l)[i * 5 + t]? = (outCells o)[t]?
  | [], i, o, h, t, ht => by simp at h
  | x :: l, 0, o, h, t, ht => by
    simp only [List.getElem?_cons_zero, Option.some.injEq] at h
    subst h
    rw [show flatOut (x :: l) = outCells x ++ flatOut l by simp [flatOut], List.getElem?_append_left (by rw [outCells_length]; omega)]
    simp
  | x :: l, i + 1, o, h, t, ht => by
    simp only [List.getElem?_cons_succ] at h
    rw [show flatOut (x :: l) = outCells x ++ flatOut l by simp [flatOut], List.getElem?_append_right (by rw [outCells_length]; omega), outCells_length]
    rw [show (i + 1) * 5 + t - 1 * 5 = i * 5 + t by omega]
    exact flatOut_get l i o h t ht

theorem lay_cells {w : World} {g : Nat} {x0 : Int} {x1 : ByteArray} {x2 : Bool} {x3 x4 : Int} {x5 : Bool} {x6 x7 : Int} (h : w.heap[g]? = some (.cells #[.int .i64 x0, .string x1, .bool x2, .int .i64 x3, .int .i64 x4, .bool x5, .int .i64 x6, .int .i64 x7] 34 (0, 0))) :
    w.cell? ⟨g, 0, none⟩ = some (.int .i64 x0) ∧ w.cell? ⟨g, 1, none⟩ = some (.string x1) ∧ w.cell? ⟨g, 2, none⟩ = some (.bool x2) ∧ w.cell? ⟨g, 3, none⟩ = some (.int .i64 x3) ∧ w.cell? ⟨g, 4, none⟩ = some (.int .i64 x4) ∧ w.cell? ⟨g, 5, none⟩ = some (.bool x5) ∧ w.cell? ⟨g, 6, none⟩ = some (.int .i64 x6) ∧ w.cell? ⟨g, 7, none⟩ = some (.int .i64 x7) ∧ w.frozen? ⟨g, 4, none⟩ = false := by
  simp [World.cell?, World.frozen?, h]

/-- Eight cells set, one behind the other. -/
def set8 (xs : List Value) (q : Nat) (z0 z1 z2 z3 z4 z5 z6 z7 : Value) : List Value := (((((((xs.set (q * 8) z0).set (q * 8 + 1) z1).set (q * 8 + 2) z2).set (q * 8 + 3) z3).set (q * 8 + 4) z4).set (q * 8 + 5) z5).set (q * 8 + 6) z6).set (q * 8 + 7) z7

theorem set8_old (xs : List Value) (q k : Nat) (z0 z1 z2 z3 z4 z5 z6 z7 : Value) (h : k < q * 8) : (set8 xs q z0 z1 z2 z3 z4 z5 z6 z7)[k]? = xs[k]? := by
  unfold set8
  rw [List.getElem?_set, if_neg (by omega), List.getElem?_set, if_neg (by omega), List.getElem?_set, if_neg (by omega), List.getElem?_set, if_neg (by omega), List.getElem?_set, if_neg (by omega), List.getElem?_set, if_neg (by omega), List.getElem?_set, if_neg (by omega), List.getElem?_set, if_neg (by omega)]

theorem set8_new (xs : List Value) (q t : Nat) (z0 z1 z2 z3 z4 z5 z6 z7 : Value) (h : q * 8 + 8 ≤ xs.length) (ht : t < 8) : (set8 xs q z0 z1 z2 z3 z4 z5 z6 z7)[q * 8 + t]? = [z0, z1, z2, z3, z4, z5, z6, z7][t]? := by
  unfold set8
  match t, ht with
  | 0, _ => rw [List.getElem?_set, if_neg (by omega), List.getElem?_set, if_neg (by omega), List.getElem?_set, if_neg (by omega), List.getElem?_set, if_neg (by omega), List.getElem?_set, if_neg (by omega), List.getElem?_set, if_neg (by omega), List.getElem?_set, if_neg (by omega), List.getElem?_set, if_pos (by omega), if_pos (by (try simp only [List.length_set]); omega)]; rfl
  | 1, _ => rw [List.getElem?_set, if_neg (by omega), List.getElem?_set, if_neg (by omega), List.getElem?_set, if_neg (by omega), List.getElem?_set, if_neg (by omega), List.getElem?_set, if_neg (by omega), List.getElem?_set, if_neg (by omega), List.getElem?_set, if_pos (by omega), if_pos (by (try simp only [List.length_set]); omega)]; rfl
  | 2, _ => rw [List.getElem?_set, if_neg (by omega), List.getElem?_set, if_neg (by omega), List.getElem?_set, if_neg (by omega), List.getElem?_set, if_neg (by omega), List.getElem?_set, if_neg (by omega), List.getElem?_set, if_pos (by omega), if_pos (by (try simp only [List.length_set]); omega)]; rfl
  | 3, _ => rw [List.getElem?_set, if_neg (by omega), List.getElem?_set, if_neg (by omega), List.getElem?_set, if_neg (by omega), List.getElem?_set, if_neg (by omega), List.getElem?_set, if_pos (by omega), if_pos (by (try simp only [List.length_set]); omega)]; rfl
  | 4, _ => rw [List.getElem?_set, if_neg (by omega), List.getElem?_set, if_neg (by omega), List.getElem?_set, if_neg (by omega), List.getElem?_set, if_pos (by omega), if_pos (by (try simp only [List.length_set]); omega)]; rfl
  | 5, _ => rw [List.getElem?_set, if_neg (by omega), List.getElem?_set, if_neg (by omega), List.getElem?_set, if_pos (by omega), if_pos (by (try simp only [List.length_set]); omega)]; rfl
  | 6, _ => rw [List.getElem?_set, if_neg (by omega), List.getElem?_set, if_pos (by omega), if_pos (by (try simp only [List.length_set]); omega)]; rfl
  | 7, _ => rw [List.getElem?_set, if_pos (by omega), if_pos (by (try simp only [List.length_set]); omega)]; rfl

theorem stored8 {X : World} {b N q : Nat} {xs : List Value} (h : X.ownsRow b 34 8 (.slice (some ⟨b, 0, none⟩) N N) N xs) (z0 z1 z2 z3 z4 z5 z6 z7 : Value) :
    ((((((((X.setCell ⟨b, q * 8, none⟩ z0).setCell ⟨b, q * 8 + 1, none⟩ z1).setCell ⟨b, q * 8 + 2, none⟩ z2).setCell ⟨b, q * 8 + 3, none⟩ z3).setCell ⟨b, q * 8 + 4, none⟩ z4).setCell ⟨b, q * 8 + 5, none⟩ z5).setCell ⟨b, q * 8 + 6, none⟩ z6).setCell ⟨b, q * 8 + 7, none⟩ z7).ownsRow b 34 8 (.slice (some ⟨b, 0, none⟩) N N) N (set8 xs q z0 z1 z2 z3 z4 z5 z6 z7) :=
  ((((((((h.stored (q * 8) z0).1.stored (q * 8 + 1) z1).1.stored (q * 8 + 2) z2).1.stored (q * 8 + 3) z3).1.stored (q * 8 + 4) z4).1.stored (q * 8 + 5) z5).1.stored (q * 8 + 6) z6).1.stored (q * 8 + 7) z7).1

theorem room8 {X : World} {b N q : Nat} {xs : List Value} (h : X.ownsRow b 34 8 (.slice (some ⟨b, 0, none⟩) N N) N xs) (hq : q < N) (t : Nat) (ht : t < 8) : ∃ u, X.cell? ⟨b, q * 8 + t, none⟩ = some u := by
  rw [h.cellAt (q * 8 + t) (by omega)]
  exact ⟨_, List.getElem?_eq_getElem (by rw [h.1]; omega)⟩

set_option maxHeartbeats 4000000 in
set_option maxRecDepth 100000 in
theorem ops_any (w : World) (p : Nat) (ao : Option Addr) (n cap : Nat) (A : Nat → Int) (B : Nat → Bool) (S : Nat → ByteArray) (V C R : Nat → Int) (hp : w.cell? ⟨p, 0, none⟩ = some (.slice ao n cap)) (hO : OpsAt w ao n A B S V C R) (hn : n ≤ 4097) :
    Calls Try.prog 7 #[.pointer (some ⟨p, 0, none⟩)] w fun e w' => ∃ G : Nat, e = .returned (.slice (some ⟨G, 0, none⟩) (outs A B S V C R n n).length (outs A B S V C R n n).length) ∧ Below w.heap.size w w' ∧ ZRow w' G (outs A B S V C R n n) := by
  have M := Lib.hid (model_any w p ao n cap A B S V C R hp hO hn)
  have hle := outs_le A B S V C R n n
  generalize outs A B S V C R n n = l at *
  clear hp hO
  obtain ⟨i0, hi0, hz0, hz1, hz2⟩ := info_parts info34
  have hmx : Try.prog.follows .mixedOrders = true := by kernel_rfl
  have ta1 := assert40
  have ta2 := assert3
  have ta3 := assertNil
  go_enter Try.func7, Try.ntmps7
  go_wp2_with fail
  refine M.out.mono ?_
  rintro e w1 ⟨G, N, rfl, B1, hG, hN, hown⟩
  have HO := Lib.hid hown
  have HB1 := Lib.hid B1
  have HL := Lib.hid hN
  have hNl : N ≤ 4097 := by omega
  clear hown B1 M hN
  go_wp2_with (at_make; refine wpList_make_full _ rfl _ _ 29 rfl w1.heap.size 34 i0 _ 8 Try.underlying29 hi0 hz0 hz1 _ _ _ _ N rfl rfl (by omega) (by omega) (by rw [hz2]; omega) (by unfold maxLen; omega) (Nat.le_refl _) ?_; intro w2 hown2 hgr2)
  go_loopg [18] N (fun g i wr => ∃ (q : Nat) (xs : List Value), q ≤ N ∧ g = N - q ∧ i = .int .i64 q ∧ wr.ownsRow w1.heap.size 34 8 (.slice (some ⟨w1.heap.size, 0, none⟩) N N) N xs ∧ (∀ i o, i < q → l[i]? = some o → ∀ t u, (zzCells o)[t]? = some u → xs[i * 8 + t]? = some u) ∧ Below w1.heap.size w1 wr)
  case atStart => exact ⟨0, _, Nat.zero_le _, rfl, rfl, hown2, fun i o hi => by omega, ⟨hgr2.os, hgr2.tape, hgr2.output, hgr2.size, fun i hi => hgr2.block i hi (by simp)⟩⟩
  clear hown2 hgr2
  case round =>
  obtain ⟨q, xs, hq, rfl, rfl, hown, hxs, hB⟩ := hrel
  have HOW := Lib.hid hown
  have HXS := Lib.hid hxs
  have HBW := Lib.hid hB
  clear hown hxs
  by_cases hlt : q < N
  case neg =>
    obtain rfl : q = N := by omega
    clear hB
    have FIN : Hid (ZRow wr w1.heap.size l) := ⟨by simpa using (HOW.out.lt w1.heap.size rfl).2, fun i o hi t u hu => by
      have h1 : i < l.length := (List.getElem?_eq_some_iff.1 hi).1
      have h2 : t < 8 := by simpa [zzCells] using (List.getElem?_eq_some_iff.1 hu).1
      rw [HOW.out.cellAt (i * 8 + t) (by have := HL.out; omega)]
      exact HXS.out i o (by have := HL.out; omega) hi t u hu⟩
    have hql := HL.out
    clear HL
    subst hql
    go_wp2
    go_ret
    exact ⟨w1.heap.size, rfl, HB1.out.trans (HBW.out.mono HB1.out.size), FIN.out⟩
  obtain ⟨o, ho⟩ : ∃ o, l[q]? = some o := ⟨_, List.getElem?_eq_getElem (by have := HL.out; omega)⟩
  have KC : Hid (wr.cell? ⟨G, q * 5, none⟩ = some (.int .i64 o.client) ∧ wr.cell? ⟨G, q * 5 + 1, none⟩ = some (.iface 40 (.agg #[.string o.key, .bool o.put, .int .i64 o.inv])) ∧ wr.cell? ⟨G, q * 5 + 2, none⟩ = some (.int .i64 o.call) ∧ wr.cell? ⟨G, q * 5 + 3, none⟩ = some (outVal o.out) ∧ wr.cell? ⟨G, q * 5 + 4, none⟩ = some (.int .i64 o.ret)) := by
    have hc : ∀ t u, t < 5 → (outCells o)[t]? = some u → wr.cell? ⟨G, q * 5 + t, none⟩ = some u := fun t u ht hu => by
      refine below_cell hB ?_
      rw [HO.out.cellAt (q * 5 + t) (by omega), flatOut_get l q o ho t ht]
      exact hu
    exact ⟨hc 0 _ (by omega) rfl, hc 1 _ (by omega) rfl, hc 2 _ (by omega) rfl, hc 3 _ (by omega) rfl, hc 4 _ (by omega) rfl⟩
  clear hB HO
  obtain ⟨c, ky, pt, iv, cl, ou, rt⟩ := o
  have HOO := Lib.hid ho
  clear ho
  cases ou with
  | none =>
      obtain ⟨k0, k1, k2, k3, k4⟩ := KC.out
      simp only [outVal] at k3
      clear KC
      go_upto_region 7 with fail
      refine region7 { y := wr.heap.size, x := wr.heap.size + 1, o := ⟨c, ky, pt, iv, cl, none, rt⟩ } (by kernel_rfl) (by kernel_rfl) (by kernel_rfl) (by kernel_rfl) hmx ?_ ?_
      · exact ⟨rfl, rfl, rfl, by simp, by simp, by simp [outVal], by simp, by simp, by simp, by simp⟩
      intro F g W hW hg hWg
      dsimp only at hW hg hWg ⊢
      simp only [Option.isNone] at hWg
      have hWr : Below wr.heap.size wr W := Below.trans (b := (wr.alloc _).alloc _) (by (repeat (first | exact Below.refl _ _ | refine Below.alloc ?_ (by simp <;> omega) _ | refine Below.setCell ?_ (by simp <;> omega) _ | refine Below.drew ?_ | refine draws_below ?_ _))) (hW.mono (by simp <;> omega))
      have hgW : wr.heap.size ≤ g := Nat.le_trans (by simp <;> omega) hg
      have y3 : W.cell? ⟨wr.heap.size, 3, none⟩ = some (.nilIface) := below_cell hW (by simp)
      clear hW hg k0 k1 k2 k3 k4
      obtain ⟨e0, e1, e2, e3, e4, e5, e6, e7, e8⟩ := lay_cells hWg
      simp only [puts, List.foldl]
      go_frame
      go_upto_region 11 with fail
      have hX : Below wr.heap.size wr (W) := hWr
      have OX : (W).ownsRow w1.heap.size 34 8 (.slice (some ⟨w1.heap.size, 0, none⟩) N N) N xs := HOW.out.kept (row := none) ⟨hX.os, hX.tape, hX.output, hX.size, fun i hi _ => hX.block i hi⟩ (Or.inr (by simp [Value.ownBlock]))
      obtain ⟨v0, r0⟩ : ∃ u, (W).cell? ⟨w1.heap.size, q * 8, none⟩ = some u := room8 OX hlt 0 (by omega)
      have n0 : (W).frozen? ⟨w1.heap.size, q * 8, none⟩ = false := OX.frozenAt _
      obtain ⟨v1, r1⟩ : ∃ u, (W).cell? ⟨w1.heap.size, q * 8 + 1, none⟩ = some u := room8 OX hlt 1 (by omega)
      have n1 : (W).frozen? ⟨w1.heap.size, q * 8 + 1, none⟩ = false := OX.frozenAt _
      obtain ⟨v2, r2⟩ : ∃ u, (W).cell? ⟨w1.heap.size, q * 8 + 2, none⟩ = some u := room8 OX hlt 2 (by omega)
      have n2 : (W).frozen? ⟨w1.heap.size, q * 8 + 2, none⟩ = false := OX.frozenAt _
      obtain ⟨v3, r3⟩ : ∃ u, (W).cell? ⟨w1.heap.size, q * 8 + 3, none⟩ = some u := room8 OX hlt 3 (by omega)
      have n3 : (W).frozen? ⟨w1.heap.size, q * 8 + 3, none⟩ = false := OX.frozenAt _
      obtain ⟨v4, r4⟩ : ∃ u, (W).cell? ⟨w1.heap.size, q * 8 + 4, none⟩ = some u := room8 OX hlt 4 (by omega)
      have n4 : (W).frozen? ⟨w1.heap.size, q * 8 + 4, none⟩ = false := OX.frozenAt _
      obtain ⟨v5, r5⟩ : ∃ u, (W).cell? ⟨w1.heap.size, q * 8 + 5, none⟩ = some u := room8 OX hlt 5 (by omega)
      have n5 : (W).frozen? ⟨w1.heap.size, q * 8 + 5, none⟩ = false := OX.frozenAt _
      obtain ⟨v6, r6⟩ : ∃ u, (W).cell? ⟨w1.heap.size, q * 8 + 6, none⟩ = some u := room8 OX hlt 6 (by omega)
      have n6 : (W).frozen? ⟨w1.heap.size, q * 8 + 6, none⟩ = false := OX.frozenAt _
      obtain ⟨v7, r7⟩ : ∃ u, (W).cell? ⟨w1.heap.size, q * 8 + 7, none⟩ = some u := room8 OX hlt 7 (by omega)
      have n7 : (W).frozen? ⟨w1.heap.size, q * 8 + 7, none⟩ = false := OX.frozenAt _
      have FIN := Lib.hid (And.intro (stored8 (q := q) OX (.int .i64 c) (.string ky) (.bool pt) (.int .i64 iv) (.int .i64 0) (.bool true) (.int .i64 cl) (.int .i64 rt)) hX)
      have hxl : q * 8 + 8 ≤ xs.length := by rw [OX.1]; omega
      clear OX hX hWr hWg hgW y3 ta1 ta2 ta3 e8 HOW
      go_wp2
      have hBX : Below w1.heap.size w1 W := HBW.out.trans (FIN.out.2.mono HBW.out.size)
      go_roundg (N - (q + 1))
      case measure => omega
      case rel =>
        refine ⟨q + 1, _, by omega, rfl, by go_num, FIN.out.1, ?_, ((((((((hBX.setCell (p := ⟨_, _, none⟩) (Nat.le_refl _) _).setCell (p := ⟨_, _, none⟩) (Nat.le_refl _) _).setCell (p := ⟨_, _, none⟩) (Nat.le_refl _) _).setCell (p := ⟨_, _, none⟩) (Nat.le_refl _) _).setCell (p := ⟨_, _, none⟩) (Nat.le_refl _) _).setCell (p := ⟨_, _, none⟩) (Nat.le_refl _) _).setCell (p := ⟨_, _, none⟩) (Nat.le_refl _) _).setCell (p := ⟨_, _, none⟩) (Nat.le_refl _) _)⟩
        intro i o hi hio t u hu
        have h2 : t < 8 := by simpa [zzCells] using (List.getElem?_eq_some_iff.1 hu).1
        rcases Nat.lt_or_ge i q with h | h
        · rw [set8_old _ _ _ _ _ _ _ _ _ _ _ (by omega)]
          exact HXS.out i o h hio t u hu
        · obtain rfl : i = q := by omega
          rw [HOO.out] at hio
          cases hio
          rw [set8_new _ _ _ _ _ _ _ _ _ _ _ hxl h2]
          exact hu
  | some v =>
      obtain ⟨k0, k1, k2, k3, k4⟩ := KC.out
      simp only [outVal] at k3
      clear KC
      go_upto_region 7 with fail
      refine region7 { y := wr.heap.size, x := wr.heap.size + 1, o := ⟨c, ky, pt, iv, cl, some v, rt⟩ } (by kernel_rfl) (by kernel_rfl) (by kernel_rfl) (by kernel_rfl) hmx ?_ ?_
      · exact ⟨rfl, rfl, rfl, by simp, by simp, by simp [outVal], by simp, by simp, by simp, by simp⟩
      intro F g W hW hg hWg
      dsimp only at hW hg hWg ⊢
      simp only [Option.isNone] at hWg
      have hWr : Below wr.heap.size wr W := Below.trans (b := (wr.alloc _).alloc _) (by (repeat (first | exact Below.refl _ _ | refine Below.alloc ?_ (by simp <;> omega) _ | refine Below.setCell ?_ (by simp <;> omega) _ | refine Below.drew ?_ | refine draws_below ?_ _))) (hW.mono (by simp <;> omega))
      have hgW : wr.heap.size ≤ g := Nat.le_trans (by simp <;> omega) hg
      have y3 : W.cell? ⟨wr.heap.size, 3, none⟩ = some (.iface 3 (.int .i64 v)) := below_cell hW (by simp)
      clear hW hg k0 k1 k2 k3 k4
      obtain ⟨e0, e1, e2, e3, e4, e5, e6, e7, e8⟩ := lay_cells hWg
      simp only [puts, List.foldl]
      go_frame
      go_upto_region 11 with fail
      have hX : Below wr.heap.size wr (W.setCell ⟨g, 4, none⟩ (.int .i64 v)) := hWr.setCell (p := ⟨g, 4, none⟩) hgW _
      have OX : (W.setCell ⟨g, 4, none⟩ (.int .i64 v)).ownsRow w1.heap.size 34 8 (.slice (some ⟨w1.heap.size, 0, none⟩) N N) N xs := HOW.out.kept (row := none) ⟨hX.os, hX.tape, hX.output, hX.size, fun i hi _ => hX.block i hi⟩ (Or.inr (by simp [Value.ownBlock]))
      have hWg' := heap_setCell_same W g 4 _ 34 (.int .i64 v) hWg
      replace hWg' : (W.setCell ⟨g, 4, none⟩ (.int .i64 v)).heap[g]? = some (.cells #[.int .i64 c, .string ky, .bool pt, .int .i64 iv, .int .i64 v, .bool false, .int .i64 cl, .int .i64 rt] 34 (0, 0)) := hWg'
      clear e0 e1 e2 e3 e4 e5 e6 e7
      obtain ⟨e0, e1, e2, e3, e4, e5, e6, e7, e9⟩ := lay_cells hWg'
      clear hWg' e9
      obtain ⟨v0, r0⟩ : ∃ u, (W.setCell ⟨g, 4, none⟩ (.int .i64 v)).cell? ⟨w1.heap.size, q * 8, none⟩ = some u := room8 OX hlt 0 (by omega)
      have n0 : (W.setCell ⟨g, 4, none⟩ (.int .i64 v)).frozen? ⟨w1.heap.size, q * 8, none⟩ = false := OX.frozenAt _
      obtain ⟨v1, r1⟩ : ∃ u, (W.setCell ⟨g, 4, none⟩ (.int .i64 v)).cell? ⟨w1.heap.size, q * 8 + 1, none⟩ = some u := room8 OX hlt 1 (by omega)
      have n1 : (W.setCell ⟨g, 4, none⟩ (.int .i64 v)).frozen? ⟨w1.heap.size, q * 8 + 1, none⟩ = false := OX.frozenAt _
      obtain ⟨v2, r2⟩ : ∃ u, (W.setCell ⟨g, 4, none⟩ (.int .i64 v)).cell? ⟨w1.heap.size, q * 8 + 2, none⟩ = some u := room8 OX hlt 2 (by omega)
      have n2 : (W.setCell ⟨g, 4, none⟩ (.int .i64 v)).frozen? ⟨w1.heap.size, q * 8 + 2, none⟩ = false := OX.frozenAt _
      obtain ⟨v3, r3⟩ : ∃ u, (W.setCell ⟨g, 4, none⟩ (.int .i64 v)).cell? ⟨w1.heap.size, q * 8 + 3, none⟩ = some u := room8 OX hlt 3 (by omega)
      have n3 : (W.setCell ⟨g, 4, none⟩ (.int .i64 v)).frozen? ⟨w1.heap.size, q * 8 + 3, none⟩ = false := OX.frozenAt _
      obtain ⟨v4, r4⟩ : ∃ u, (W.setCell ⟨g, 4, none⟩ (.int .i64 v)).cell? ⟨w1.heap.size, q * 8 + 4, none⟩ = some u := room8 OX hlt 4 (by omega)
      have n4 : (W.setCell ⟨g, 4, none⟩ (.int .i64 v)).frozen? ⟨w1.heap.size, q * 8 + 4, none⟩ = false := OX.frozenAt _
      obtain ⟨v5, r5⟩ : ∃ u, (W.setCell ⟨g, 4, none⟩ (.int .i64 v)).cell? ⟨w1.heap.size, q * 8 + 5, none⟩ = some u := room8 OX hlt 5 (by omega)
      have n5 : (W.setCell ⟨g, 4, none⟩ (.int .i64 v)).frozen? ⟨w1.heap.size, q * 8 + 5, none⟩ = false := OX.frozenAt _
      obtain ⟨v6, r6⟩ : ∃ u, (W.setCell ⟨g, 4, none⟩ (.int .i64 v)).cell? ⟨w1.heap.size, q * 8 + 6, none⟩ = some u := room8 OX hlt 6 (by omega)
      have n6 : (W.setCell ⟨g, 4, none⟩ (.int .i64 v)).frozen? ⟨w1.heap.size, q * 8 + 6, none⟩ = false := OX.frozenAt _
      obtain ⟨v7, r7⟩ : ∃ u, (W.setCell ⟨g, 4, none⟩ (.int .i64 v)).cell? ⟨w1.heap.size, q * 8 + 7, none⟩ = some u := room8 OX hlt 7 (by omega)
      have n7 : (W.setCell ⟨g, 4, none⟩ (.int .i64 v)).frozen? ⟨w1.heap.size, q * 8 + 7, none⟩ = false := OX.frozenAt _
      have FIN := Lib.hid (And.intro (stored8 (q := q) OX (.int .i64 c) (.string ky) (.bool pt) (.int .i64 iv) (.int .i64 v) (.bool false) (.int .i64 cl) (.int .i64 rt)) hX)
      have hxl : q * 8 + 8 ≤ xs.length := by rw [OX.1]; omega
      generalize W.setCell ⟨g, 4, none⟩ (.int .i64 v) = X at *
      clear OX hX hWr hWg hgW y3 ta1 ta2 ta3 e8 HOW
      go_wp2
      have hBX : Below w1.heap.size w1 X := HBW.out.trans (FIN.out.2.mono HBW.out.size)
      go_roundg (N - (q + 1))
      case measure => omega
      case rel =>
        refine ⟨q + 1, _, by omega, rfl, by go_num, FIN.out.1, ?_, ((((((((hBX.setCell (p := ⟨_, _, none⟩) (Nat.le_refl _) _).setCell (p := ⟨_, _, none⟩) (Nat.le_refl _) _).setCell (p := ⟨_, _, none⟩) (Nat.le_refl _) _).setCell (p := ⟨_, _, none⟩) (Nat.le_refl _) _).setCell (p := ⟨_, _, none⟩) (Nat.le_refl _) _).setCell (p := ⟨_, _, none⟩) (Nat.le_refl _) _).setCell (p := ⟨_, _, none⟩) (Nat.le_refl _) _).setCell (p := ⟨_, _, none⟩) (Nat.le_refl _) _)⟩
        intro i o hi hio t u hu
        have h2 : t < 8 := by simpa [zzCells] using (List.getElem?_eq_some_iff.1 hu).1
        rcases Nat.lt_or_ge i q with h | h
        · rw [set8_old _ _ _ _ _ _ _ _ _ _ _ (by omega)]
          exact HXS.out i o h hio t u hu
        · obtain rfl : i = q := by omega
          rw [HOO.out] at hio
          cases hio
          rw [set8_new _ _ _ _ _ _ _ _ _ _ _ hxl h2]
          exact hu
end Go.Proofs.Qxb6616342a
