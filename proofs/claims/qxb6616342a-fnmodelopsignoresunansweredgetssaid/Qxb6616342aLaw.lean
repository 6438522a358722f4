/-
  The law's walk, whole.
-/
import Derived.Test.Qxb6616342aCopy
namespace Go.Proofs.Qxb6616342a
open Go.RowKit

set_option maxHeartbeats 8000000 in
set_option maxRecDepth 1000000 in
theorem law_any (w : World) (o0 o1 o2 o3 o4 o5 : Option Addr) (n0 n1 n2 n3 n4 n5 c0 c1 c2 c3 c4 c5 : Nat) (A : Nat → Int) (B : Nat → Bool) (S : Nat → ByteArray) (V C R : Nat → Int) (at_ gc : Int) (g : ByteArray) (gl : Int)
    (h0 : Row w o0 n0 (fun k => .int .i64 (A k)))
    (h1 : Row w o1 n1 (fun k => .bool (B k)))
    (h2 : Row w o2 n2 (fun k => .string (S k)))
    (h3 : Row w o3 n3 (fun k => .int .i64 (V k)))
    (h4 : Row w o4 n4 (fun k => .int .i64 (C k)))
    (h5 : Row w o5 n5 (fun k => .int .i64 (R k)))
    (hS : ∀ k, k < n2 → (S k).size ≤ 9223372036854775807) (hg : g.size ≤ 9223372036854775807) (hc : ∀ i, i < n4 → C i ≤ 9223372036854775807) :
    Calls Try.prog 3 #[.slice o0 n0 c0, .slice o1 n1 c1, .slice o2 n2 c2, .slice o3 n3 c3, .slice o4 n4 c4, .slice o5 n5 c5, .int .i64 at_, .int .i64 gc, .string g, .int .i64 gl] w fun e w' => e = .returned (.bool true) ∧ Below w.heap.size w w' := by
  have Bz := Lib.hid (bytes_any w o0 o1 o2 o3 o4 o5 n0 n1 n2 n3 n4 n5 c0 c1 c2 c3 c4 c5 S at_ gc g gl h2 h0.len h1.len h3.len h4.len h5.len hg hS)
  have l0 := h0.len
  have l1 := h1.len
  have l2 := h2.len
  have l3 := h3.len
  have l4 := h4.len
  have l5 := h5.len
  have T := Lib.hid (fun (a : Act) (hs : a.tmps.size = 373) (hd : a.defers = []) s0 s1 s2 s3 s4 s5 s6 s7 s8 s9 m0 m1 m2 m3 m4 m5 hS' hg' => copies a w w o0 o1 o2 o3 o4 o5 n0 n1 n2 n3 n4 n5 c0 c1 c2 c3 c4 c5 A B S V C R at_ gc g gl hs hd s0 s1 s2 s3 s4 s5 s6 s7 s8 s9 h0 h1 h2 h3 h4 h5 m0 m1 m2 m3 m4 m5 hS' hg' hc (Below.refl _ _))
  clear h0 h1 h2 h3 h4 h5 hS hc
  go_enter Try.func3, Try.ntmps3
  go_wp2_with fail
  refine Bz.out.mono ?_
  rintro e w' ⟨he, hw⟩
  subst w'
  rcases he with rfl | ⟨rfl, hS, hg'⟩
  · go_wp2
    go_ret
    exact ⟨rfl, Below.refl _ _⟩
  have HS := Lib.hid hS
  clear hS Bz
  by_cases m0 : n0 ≤ 4096
  case neg =>
    go_wp2
    go_ret
    exact ⟨rfl, Below.refl _ _⟩
  by_cases m1 : n1 ≤ 4096
  case neg =>
    go_wp2
    go_ret
    exact ⟨rfl, Below.refl _ _⟩
  by_cases m2 : n2 ≤ 4096
  case neg =>
    go_wp2
    go_ret
    exact ⟨rfl, Below.refl _ _⟩
  by_cases m3 : n3 ≤ 4096
  case neg =>
    go_wp2
    go_ret
    exact ⟨rfl, Below.refl _ _⟩
  by_cases m4 : n4 ≤ 4096
  case neg =>
    go_wp2
    go_ret
    exact ⟨rfl, Below.refl _ _⟩
  by_cases m5 : n5 ≤ 4096
  case neg =>
    go_wp2
    go_ret
    exact ⟨rfl, Below.refl _ _⟩
  go_upto_if 87 with fail
  go_step
  repeat (first | (refine T.out _ ?_ ?_ ?_ ?_ ?_ ?_ ?_ ?_ ?_ ?_ ?_ ?_ m0 m1 m2 m3 m4 m5 HS.out hg') | go_step | (simp only []))
  all_goals rfl
end Go.Proofs.Qxb6616342a
