/-
  THE ROW of 'FnEntryListFrontIsHeadEntryDueToTheMillisecond', proved for every input.
-/
import Derived.Test.Qxb6616828aOpen
import Derived.Test.Qxb6616828aDueLaw
namespace Go.Proofs.Qxb6616828a
open Go.ChangeShapes Go.WideShapes Go.ChangeAt Go.RowKit

set_option maxRecDepth 100000 in
theorem due_lifted (os : Os) (started : os.Started) (H : Type) (enc : TypeId × Value → H) :
    ReturnsInHanded {} Try.checked os 3 .any (Rows.fnEntryListFrontIsHeadEntryDueToTheMillisecondSpec.pre6 enc Try.prog Try.f3 Rows.fnEntryListFrontIsHeadEntryDueToTheMillisecondRow.domain false) (Rows.fnEntryListFrontIsHeadEntryDueToTheMillisecondSpec.post enc Try.prog Try.f3 false true false false) := by
  refine returnsInHanded_of_change (C := Try.checked) own started (by kernel_rfl) Try.func3
    (ChangeSpec.witness6 (enc := enc) (C := Try.checked) false ⟨#[], #[.slice none 0 0, .slice none 0 0, .slice none 0 0, .slice none 0 0, .slice none 0 0, .int .i64 0, .int .i64 0], []⟩ 8 (by kernel_rfl) (by kernel_rfl) (by kernel_rfl) (by kernel_rfl)) ?_
  intro W base args ds gs before hval0 hW hcnd _
  have hval : ∀ (j : Nat) t v, Try.f3.params[j]? = some t → args[j]? = some v → Value.okWide Try.prog W .any base t v := hval0
  have hW' := hW
  obtain ⟨p, q, hA0, hV, rfl, hfz, hnd⟩ := hW
  have hA : DataW.TrodAll enc Try.prog W 0 (fun _ => true) true Try.f3.params.toList args.toList ds p := hA0
  rw [Try.params3] at hA hval
  obtain ⟨v0, vs0, d0, ds0, p0, q0, hargs, rfl, rfl, h0, r0⟩ := trodAll_cons hA
  obtain ⟨v1, vs1, d1, ds1, p1, q1, rfl, rfl, rfl, h1, r1⟩ := trodAll_cons r0
  obtain ⟨v2, vs2, d2, ds2, p2, q2, rfl, rfl, rfl, h2, r2⟩ := trodAll_cons r1
  obtain ⟨v3, vs3, d3, ds3, p3, q3, rfl, rfl, rfl, h3, r3⟩ := trodAll_cons r2
  obtain ⟨v4, vs4, d4, ds4, p4, q4, rfl, rfl, rfl, h4, r4⟩ := trodAll_cons r3
  obtain ⟨v5, vs5, d5, ds5, p5, q5, rfl, rfl, rfl, h5, r5⟩ := trodAll_cons r4
  obtain ⟨v6, vs6, d6, ds6, p6, q6, rfl, rfl, rfl, h6, r6⟩ := trodAll_cons r5
  obtain ⟨rfl, rfl, rfl⟩ := trodAll_nil r6
  obtain rfl : args = #[v0, v1, v2, v3, v4, v5, v6] := by cases args; simp_all
  obtain ⟨rfl, rfl⟩ := trodVars_none hV
  obtain ⟨o0, n0, c0, A0, L0, C0, Z0, rfl, g0⟩ := grid_of (hval 0 22 v0 rfl rfl) h0
  obtain ⟨o1, n1, c1, A1, L1, C1, Z1, rfl, g1⟩ := grid_of (hval 1 22 v1 rfl rfl) h1
  obtain ⟨o2, n2, c2, A2, L2, C2, Z2, rfl, g2⟩ := grid_of (hval 2 22 v2 rfl rfl) h2
  obtain ⟨o3, n3, c3, A3, L3, C3, Z3, rfl, g3⟩ := grid_of (hval 3 22 v3 rfl rfl) h3
  obtain ⟨o4, n4, c4, A4, L4, C4, Z4, rfl, g4⟩ := grid_of (hval 4 22 v4 rfl rfl) h4
  obtain ⟨x, rfl, rfl, rfl, wx⟩ := open_int Try.underlying3 (hval 5 3 v5 rfl rfl) h5
  obtain ⟨y, rfl, rfl, rfl, wy⟩ := open_int Try.underlying3 (hval 6 3 v6 rfl rfl) h6
  clear hA0 hval0
  have bx := bounds_i64 wx
  have bY := bounds_i64 wy
  have hlt : ∀ z ∈ p0 ++ (p1 ++ (p2 ++ (p3 ++ (p4 ++ ([] ++ ([] ++ [])))))), z.block < W.heap.size := fun z hz => by simpa using hW'.lt z (by simpa using hz)
  refine (due_any W o0 o1 o2 o3 o4 n0 n1 n2 n3 n4 c0 c1 c2 c3 c4 A0 A1 A2 A3 A4 L0 L1 L2 L3 L4 C0 C1 C2 C3 C4 Z0 Z1 Z2 Z3 Z4 x y g0 g1 g2 g3 g4 bx bY).mono fun e W' ⟨he, hg⟩ => ?_
  subst he
  exact ⟨_, rfl, _, _, _, [], p0 ++ (p1 ++ (p2 ++ (p3 ++ (p4 ++ ([] ++ ([] ++ [])))))), [], hW', trodAll_mk1 (shut_bool Try.underlying4 _),
    trodAll_cons_mk (Below.trod laidOut (by kernel_rfl) (of_decide_eq_true (by kernel_rfl)) h0 hg (fun z hz => hlt z (by simp [hz])))
    (trodAll_cons_mk (Below.trod laidOut (by kernel_rfl) (of_decide_eq_true (by kernel_rfl)) h1 hg (fun z hz => hlt z (by simp [hz])))
    (trodAll_cons_mk (Below.trod laidOut (by kernel_rfl) (of_decide_eq_true (by kernel_rfl)) h2 hg (fun z hz => hlt z (by simp [hz])))
    (trodAll_cons_mk (Below.trod laidOut (by kernel_rfl) (of_decide_eq_true (by kernel_rfl)) h3 hg (fun z hz => hlt z (by simp [hz])))
    (trodAll_cons_mk (Below.trod laidOut (by kernel_rfl) (of_decide_eq_true (by kernel_rfl)) h4 hg (fun z hz => hlt z (by simp [hz])))
    (trodAll_cons_mk (shut_int Try.underlying3 wx) (trodAll_cons_mk (shut_int Try.underlying3 wy) trodAll_mk0)))))),
    rfl, hg.frame _, fun h => by cases h⟩

theorem due_proved : Rows.FnEntryListFrontIsHeadEntryDueToTheMillisecondSaid :=
  OpenClaim.holds_of_wide 3 Try.f3 rfl rfl rfl rfl rfl rfl rfl ⟨rfl, rfl, rfl, rfl, rfl⟩ rfl rfl rfl rfl rfl (by kernel_rfl) Try.func3 (by kernel_rfl)
    (of_decide_eq_true (by kernel_rfl)) (by unfold Func.isWrapper; first | (rw [if_pos (by decide +kernel)]; kernel_rfl) | (rw [if_neg (by decide +kernel)]; exact ⟨rfl, rfl⟩))
    (fun os started H enc _ => due_lifted os started H enc)
end Go.Proofs.Qxb6616828a
