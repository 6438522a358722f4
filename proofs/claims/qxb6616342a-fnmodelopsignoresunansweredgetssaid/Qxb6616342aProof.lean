/-
  THE ROW of 'FnModelOpsIgnoresUnansweredGets', proved for every input.
-/
import Derived.Test.Qxb6616342aRows
import Derived.Test.Qxb6616342aLaw
import Derived.WalkKit
import Derived.ProofKit
import Derived.OpenShut
import Derived.ShutString
import Derived.Deep.Grids
import Derived.Deep.Strs
namespace Go.Proofs.Qxb6616342a
open Go.ChangeShapes Go.WideShapes Go.ChangeAt Go.RowKit Go.Deep
open Go.ChangeMaps (open_string shut_string)

theorem own : ownKnob Try.prog.godebug = none := by kernel_rfl
theorem laidOut : laidOutB Try.prog = true := by kernel_rfl
theorem cells3 : Try.prog.cellsOf 3 = 1 := by kernel_rfl
theorem cells4 : Try.prog.cellsOf 4 = 1 := by kernel_rfl
theorem cells9 : Try.prog.cellsOf 9 = 1 := by kernel_rfl
theorem cells2 : Try.prog.cellsOf 2 = 1 := by kernel_rfl

theorem row_mk {w : World} {a : Addr} {n : Nat} {X : Nat → Value} (hn : n ≤ 9223372036854775807) (h : ∀ k, k < n → w.cell? (a.add k) = some (X k)) : Row w (some a) n X := by
  refine ⟨hn, fun k hk => ?_⟩
  obtain ⟨b, off, spot⟩ := a
  have h0 := h 0 (by omega)
  have hs : spot = none := by simpa [Addr.add] using World.cell?_spot h0
  subst hs
  have hk' := h k hk
  rw [Addr.add_lit] at hk'
  exact ⟨b, off, rfl, by simpa using World.block_lt_of_cell? w _ hk', hk'⟩

theorem row_nil (w : World) (X : Nat → Value) : Row w none 0 X := ⟨by omega, fun k hk => by omega⟩

theorem ints22 {H : Type} {enc : TypeId × Value → H} {W : World} {base : Nat} {v : Value} {d : DataW H} {ps : List MemPlace} (hv : Value.okWide Try.prog W .any base 22 v) (h : DataW.Trod enc Try.prog W 0 (fun _ => true) true 22 v d ps) :
    ∃ (ao : Option Addr) (n cap : Nat) (Z : Nat → Int), v = .slice ao n cap ∧ Row W ao n (fun k => .int .i64 (Z k)) ∧ ∀ k, k < n → Z k ≤ 9223372036854775807 := by
  obtain ⟨a0, len, cap, rfl⟩ := okWide_slice Try.underlying22 hv
  obtain ⟨fuel, hf⟩ := h
  rcases open_ints Try.underlying22 Try.underlying3 cells3 hf with ⟨hcs, _⟩ | ⟨a, len', cap', zs, hcs, _, hl, hm, hz, _, hcell, hw⟩
  · simp [Value.cells] at hcs
    obtain ⟨rfl, rfl, rfl⟩ := hcs
    exact ⟨none, 0, 0, fun _ => 0, rfl, row_nil _ _, fun k hk => by omega⟩
  · simp [Value.cells] at hcs
    obtain ⟨rfl, rfl, rfl⟩ := hcs
    unfold maxLen at hm
    simp only [if_true] at hz
    refine ⟨some a, len, cap, fun k => zs.getD k 0, rfl, row_mk (by omega) (fun k hk => hcell k (by omega)), fun k hk => ?_⟩
    have hk' : k < zs.length := by omega
    have := hw _ (List.getElem_mem hk')
    have hb := bounds_i64 this
    simp only [List.getD_eq_getElem?_getD, List.getElem?_eq_getElem hk', Option.getD_some]
    exact hb.2

theorem ints25 {H : Type} {enc : TypeId × Value → H} {W : World} {base : Nat} {v : Value} {d : DataW H} {ps : List MemPlace} (hv : Value.okWide Try.prog W .any base 25 v) (h : DataW.Trod enc Try.prog W 0 (fun _ => true) true 25 v d ps) :
    ∃ (ao : Option Addr) (n cap : Nat) (Z : Nat → Int), v = .slice ao n cap ∧ Row W ao n (fun k => .int .i64 (Z k)) ∧ ∀ k, k < n → Z k ≤ 9223372036854775807 := by
  obtain ⟨a0, len, cap, rfl⟩ := okWide_slice Try.underlying25 hv
  obtain ⟨fuel, hf⟩ := h
  rcases open_ints Try.underlying25 Try.underlying2 cells2 hf with ⟨hcs, _⟩ | ⟨a, len', cap', zs, hcs, _, hl, hm, hz, _, hcell, hw⟩
  · simp [Value.cells] at hcs
    obtain ⟨rfl, rfl, rfl⟩ := hcs
    exact ⟨none, 0, 0, fun _ => 0, rfl, row_nil _ _, fun k hk => by omega⟩
  · simp [Value.cells] at hcs
    obtain ⟨rfl, rfl, rfl⟩ := hcs
    unfold maxLen at hm
    simp only [if_true] at hz
    refine ⟨some a, len, cap, fun k => zs.getD k 0, rfl, row_mk (by omega) (fun k hk => hcell k (by omega)), fun k hk => ?_⟩
    have hk' : k < zs.length := by omega
    have := hw _ (List.getElem_mem hk')
    have hb := bounds_i64 this
    simp only [List.getD_eq_getElem?_getD, List.getElem?_eq_getElem hk', Option.getD_some]
    exact hb.2

theorem bools23 {H : Type} {enc : TypeId × Value → H} {W : World} {base : Nat} {v : Value} {d : DataW H} {ps : List MemPlace} (hv : Value.okWide Try.prog W .any base 23 v) (h : DataW.Trod enc Try.prog W 0 (fun _ => true) true 23 v d ps) :
    ∃ (ao : Option Addr) (n cap : Nat) (B : Nat → Bool), v = .slice ao n cap ∧ Row W ao n (fun k => .bool (B k)) := by
  obtain ⟨a0, len, cap, rfl⟩ := okWide_slice Try.underlying23 hv
  obtain ⟨fuel, hf⟩ := h
  rcases open_bools Try.underlying23 Try.underlying4 cells4 hf with ⟨hcs, _⟩ | ⟨a, len', cap', B, hcs, _, hl, hm, _, hcell⟩
  · simp [Value.cells] at hcs
    obtain ⟨rfl, rfl, rfl⟩ := hcs
    exact ⟨none, 0, 0, fun _ => false, rfl, row_nil _ _⟩
  · simp [Value.cells] at hcs
    obtain ⟨rfl, rfl, rfl⟩ := hcs
    unfold maxLen at hm
    exact ⟨some a, len, cap, B, rfl, row_mk (by omega) (fun k hk => hcell k (by omega))⟩

theorem strs24 {H : Type} {enc : TypeId × Value → H} {W : World} {base : Nat} {v : Value} {d : DataW H} {ps : List MemPlace} (hv : Value.okWide Try.prog W .any base 24 v) (h : DataW.Trod enc Try.prog W 0 (fun _ => true) true 24 v d ps) :
    ∃ (ao : Option Addr) (n cap : Nat) (S : Nat → ByteArray), v = .slice ao n cap ∧ Row W ao n (fun k => .string (S k)) ∧ ∀ k, k < n → (S k).size ≤ 9223372036854775807 := by
  obtain ⟨a0, len, cap, rfl⟩ := okWide_slice Try.underlying24 hv
  obtain ⟨fuel, hf⟩ := h
  rcases open_strs Try.underlying24 Try.underlying9 cells9 hf with ⟨hcs, _⟩ | ⟨a, len', cap', m, S, hcs, _, hl, hm, hmm, _, hcell⟩
  · simp [Value.cells] at hcs
    obtain ⟨rfl, rfl, rfl⟩ := hcs
    exact ⟨none, 0, 0, fun _ => ByteArray.empty, rfl, row_nil _ _, fun k hk => by omega⟩
  · simp [Value.cells] at hcs
    obtain ⟨rfl, rfl, rfl⟩ := hcs
    unfold maxLen at hm hcell
    simp only [if_true] at hmm
    exact ⟨some a, len, cap, S, rfl, row_mk (by omega) (fun k hk => (hcell k (by omega)).1), fun k hk => by have := (hcell k (by omega)).2; omega⟩

set_option maxRecDepth 100000 in
theorem lifted (os : Os) (started : os.Started) (H : Type) (enc : TypeId × Value → H) :
    ReturnsInHanded {} Try.checked os 3 .any (Rows.fnModelOpsIgnoresUnansweredGetsSpec.pre6 enc Try.prog Try.f3 Rows.fnModelOpsIgnoresUnansweredGetsRow.domain false) (Rows.fnModelOpsIgnoresUnansweredGetsSpec.post enc Try.prog Try.f3 false true false false) := by
  refine returnsInHanded_of_change (C := Try.checked) own started (by kernel_rfl) Try.func3
    (ChangeSpec.witness6 (enc := enc) (C := Try.checked) false ⟨#[], #[.slice none 0 0, .slice none 0 0, .slice none 0 0, .slice none 0 0, .slice none 0 0, .slice none 0 0, .int .i64 0, .int .i64 0, .string ByteArray.empty, .int .i64 0], []⟩ 8 (by kernel_rfl) (by kernel_rfl) (by kernel_rfl) (by kernel_rfl)) ?_
  intro W base args ds gs before hval0 hW hcnd _
  have hval : ∀ (j : Nat) t v, Try.f3.params[j]? = some t → args[j]? = some v → Value.okWide Try.prog W .any base t v := hval0
  have hW' := hW
  obtain ⟨p, q, hA0, hV, rfl, hfz, hnd⟩ := hW
  have hA : DataW.TrodAll enc Try.prog W 0 (fun _ => true) true Try.f3.params.toList args.toList ds p := hA0
  rw [Try.params3] at hA hval
  obtain ⟨v0, vs0, d0, ds0, p0, q0, hargs, rfl, rfl, h0, r0⟩ := trodAll_cons hA
  obtain ⟨v1, vs1, d1, ds1, p1, q1, rfl, rfl, rfl, h1, r1⟩ := trodAll_cons r0
  obtain ⟨v2, vs2, d2, ds2, p2, q2, rfl, rfl, rfl, h2, r2⟩ := trodAll_cons r1
  obtain ⟨v3, vs3, d3, ds3, p3, q3, rfl, rfl, rfl, h3, r3⟩ := trodAll_cons r2
  obtain ⟨v4, vs4, d4, ds4, p4, q4, rfl, rfl, rfl, h4, r4⟩ := trodAll_cons r3
  obtain ⟨v5, vs5, d5, ds5, p5, q5, rfl, rfl, rfl, h5, r5⟩ := trodAll_cons r4
  obtain ⟨v6, vs6, d6, ds6, p6, q6, rfl, rfl, rfl, h6, r6⟩ := trodAll_cons r5
  obtain ⟨v7, vs7, d7, ds7, p7, q7, rfl, rfl, rfl, h7, r7⟩ := trodAll_cons r6
  obtain ⟨v8, vs8, d8, ds8, p8, q8, rfl, rfl, rfl, h8, r8⟩ := trodAll_cons r7
  obtain ⟨v9, vs9, d9, ds9, p9, q9, rfl, rfl, rfl, h9, r9⟩ := trodAll_cons r8
  obtain ⟨rfl, rfl, rfl⟩ := trodAll_nil r9
  obtain rfl : args = #[v0, v1, v2, v3, v4, v5, v6, v7, v8, v9] := by cases args; simp_all
  obtain ⟨rfl, rfl⟩ := trodVars_none hV
  obtain ⟨o0, n0, c0, A, rfl, g0, _⟩ := ints22 (hval 0 22 v0 rfl rfl) h0
  obtain ⟨o1, n1, c1, B, rfl, g1⟩ := bools23 (hval 1 23 v1 rfl rfl) h1
  obtain ⟨o2, n2, c2, S, rfl, g2, gS⟩ := strs24 (hval 2 24 v2 rfl rfl) h2
  obtain ⟨o3, n3, c3, V, rfl, g3, _⟩ := ints22 (hval 3 22 v3 rfl rfl) h3
  obtain ⟨o4, n4, c4, C, rfl, g4, gC⟩ := ints25 (hval 4 25 v4 rfl rfl) h4
  obtain ⟨o5, n5, c5, R, rfl, g5, _⟩ := ints25 (hval 5 25 v5 rfl rfl) h5
  obtain ⟨x6, rfl, rfl, rfl, w6⟩ := open_int Try.underlying3 (hval 6 3 v6 rfl rfl) h6
  obtain ⟨x7, rfl, rfl, rfl, w7⟩ := open_int Try.underlying3 (hval 7 3 v7 rfl rfl) h7
  obtain ⟨x8, rfl, rfl, rfl, w8⟩ := open_string Try.underlying9 (hval 8 9 v8 rfl rfl) h8
  obtain ⟨x9, rfl, rfl, rfl, w9⟩ := open_int Try.underlying2 (hval 9 2 v9 rfl rfl) h9
  clear hA0 hval0
  have hlt : ∀ z ∈ p0 ++ (p1 ++ (p2 ++ (p3 ++ (p4 ++ (p5 ++ ([] ++ ([] ++ ([] ++ ([] ++ []))))))))), z.block < W.heap.size := fun z hz => by simpa using hW'.lt z (by simpa using hz)
  refine (law_any W o0 o1 o2 o3 o4 o5 n0 n1 n2 n3 n4 n5 c0 c1 c2 c3 c4 c5 A B S V C R x6 x7 x8 x9 g0 g1 g2 g3 g4 g5 gS (by unfold maxLen at w8; omega) gC).mono fun e W' ⟨he, hg⟩ => ?_
  subst he
  exact ⟨_, rfl, _, _, _, [], p0 ++ (p1 ++ (p2 ++ (p3 ++ (p4 ++ (p5 ++ ([] ++ ([] ++ ([] ++ ([] ++ []))))))))), [], hW', trodAll_mk1 (shut_bool Try.underlying4 _),
    trodAll_cons_mk (Below.trod laidOut (by kernel_rfl) (of_decide_eq_true (by kernel_rfl)) h0 hg (fun z hz => hlt z (by simp [hz])))
    (trodAll_cons_mk (Below.trod laidOut (by kernel_rfl) (of_decide_eq_true (by kernel_rfl)) h1 hg (fun z hz => hlt z (by simp [hz])))
    (trodAll_cons_mk (Below.trod laidOut (by kernel_rfl) (of_decide_eq_true (by kernel_rfl)) h2 hg (fun z hz => hlt z (by simp [hz])))
    (trodAll_cons_mk (Below.trod laidOut (by kernel_rfl) (of_decide_eq_true (by kernel_rfl)) h3 hg (fun z hz => hlt z (by simp [hz])))
    (trodAll_cons_mk (Below.trod laidOut (by kernel_rfl) (of_decide_eq_true (by kernel_rfl)) h4 hg (fun z hz => hlt z (by simp [hz])))
    (trodAll_cons_mk (Below.trod laidOut (by kernel_rfl) (of_decide_eq_true (by kernel_rfl)) h5 hg (fun z hz => hlt z (by simp [hz])))
    (trodAll_cons_mk (shut_int Try.underlying3 w6) (trodAll_cons_mk (shut_int Try.underlying3 w7) (trodAll_cons_mk (shut_string Try.underlying9 w8) (trodAll_cons_mk (shut_int Try.underlying2 w9) trodAll_mk0))))))))),
    rfl, hg.frame _, fun h => by cases h⟩

theorem proved : Rows.FnModelOpsIgnoresUnansweredGetsSaid :=
  OpenClaim.holds_of_wide 3 Try.f3 rfl rfl rfl rfl rfl rfl rfl ⟨rfl, rfl, rfl, rfl, rfl⟩ rfl rfl rfl rfl rfl (by kernel_rfl) Try.func3 (by kernel_rfl)
    (of_decide_eq_true (by kernel_rfl)) (by unfold Func.isWrapper; first | (rw [if_pos (by decide +kernel)]; kernel_rfl) | (rw [if_neg (by decide +kernel)]; exact ⟨rfl, rfl⟩))
    (fun os started H enc _ => lifted os started H enc)
end Go.Proofs.Qxb6616342a
