/-
  THE LAW's WALK where the four texts are small.
-/
import Derived.Test.Qxb6616971aLaw
namespace Go.Proofs.Qxb6616971a
open Go.RowKit

/-- The innermost text behind the directive. -/
def want (keep : Bool) (s t : ByteArray) : ByteArray := if keep then s ++ t else s

theorem want_cells (keep : Bool) (s t : ByteArray) : (if keep then Lib.strCells s ++ Lib.strCells t else Lib.strCells s) = Lib.byteCells (want keep s t).data.toList := by
  cases keep
  · exact cells_str s
  · exact cells_two s t

theorem back (s : ByteArray) : (⟨s.data.toList.toArray⟩ : ByteArray) = s := by simp

/-- Everything that the four texts' readers ask, in one world. -/
structure Shows (w : World) (N p sb g0 g1 po pi t q tq : Nat) (s1 s2 s34 : ByteArray) : Prop where
  gs : w.cell? ⟨p, 14, none⟩ = some (.slice (some ⟨sb, 0, none⟩) 2 2)
  top : w.cell? ⟨p, 13, none⟩ = some (.pointer (some ⟨t, 0, none⟩))
  b0 : w.cell? ⟨sb, 0, none⟩ = some (.pointer (some ⟨g0, 0, none⟩))
  b1 : w.cell? ⟨sb, 1, none⟩ = some (.pointer (some ⟨g1, 0, none⟩))
  p0 : w.cell? ⟨g0, 8, none⟩ = some (.pointer (some ⟨po, 0, none⟩))
  p1 : w.cell? ⟨g1, 8, none⟩ = some (.pointer (some ⟨pi, 0, none⟩))
  qt : w.cell? ⟨q, 13, none⟩ = some (.pointer (some ⟨tq, 0, none⟩))
  r1 : Reads w N t s1.data.toList
  r2 : Reads w N po s2.data.toList
  r3 : Reads w N pi s34.data.toList
  rq : Reads w N tq s34.data.toList

theorem Shows.looked {w w' : World} {N p sb g0 g1 po pi t q tq : Nat} {s1 s2 s34 : ByteArray} (h : Shows w N p sb g0 g1 po pi t q tq s1 s2 s34) (L : Looked N w w') : Shows w' N p sb g0 g1 po pi t q tq s1 s2 s34 :=
  ⟨(L.cell _).trans h.gs, (L.cell _).trans h.top, (L.cell _).trans h.b0, (L.cell _).trans h.b1, (L.cell _).trans h.p0, (L.cell _).trans h.p1, (L.cell _).trans h.qt, h.r1.looked L, h.r2.looked L, h.r3.looked L, h.rq.looked L⟩

theorem Reads.mono {w : World} {N M b : Nat} {l : List UInt8} (h : Reads w M b l) (hN : N ≤ M) : Reads w N b l := by
  obtain ⟨v, hc, h | ⟨h0, g, cap, cells, e, r1, r⟩⟩ := h
  · exact ⟨v, hc, Or.inl h⟩
  · exact ⟨v, hc, Or.inr ⟨h0, g, cap, cells, e, by omega, r⟩⟩

theorem Text.grow {w w' : World} {B b : Nat} {v : Value} {bs : List Value} {d : Int} (T : Text w B b v bs d) (hb : Below w.heap.size w w') : Text w' B b v bs d := by
  obtain ⟨⟨p, h1, h2⟩, own, nil⟩ := T
  refine ⟨⟨p, (hb.block b (lt_of_block h1)).trans h1, h2⟩, ⟨own.1, ?_⟩, nil⟩
  rcases own.2 with h | ⟨g, cap, cur, e, r1, r2, r3⟩
  · exact Or.inl h
  · exact Or.inr ⟨g, cap, cur, e, r1, (hb.block g (lt_of_block r2)).trans r2, r3⟩

theorem cell_grow {w w' : World} (hb : Below w.heap.size w w') {b k : Nat} {x : Value} (h : w.cell? ⟨b, k, none⟩ = some x) : w'.cell? ⟨b, k, none⟩ = some x :=
  (hb.cell (p := ⟨b, k, none⟩) (by simpa using World.block_lt_of_cell? w _ h)).trans h

theorem TwoG.grow {w w' : World} {keep : Bool} {N S p t po pi go gi sb : Nat} {v1 v2 v3 : Value} {a b c : List Value} (G : TwoG w keep N S p t po pi go gi sb v1 v2 v3 a b c) (hb : Below w.heap.size w w') : TwoG w' keep N S p t po pi go gi sb v1 v2 v3 a b c := by
  obtain ⟨B1, T1, h1⟩ := G.Tt
  obtain ⟨B2, T2, h2⟩ := G.To
  obtain ⟨B3, T3, h3, h4, h5⟩ := G.Ti
  exact ⟨⟨cell_grow hb G.par.keep, cell_grow hb G.par.top, cell_grow hb G.par.gs⟩, cell_grow hb G.s0, cell_grow hb G.s1, cell_grow hb G.g0, cell_grow hb G.g1, ⟨B1, T1.grow hb, h1⟩, ⟨B2, T2.grow hb, h2⟩, ⟨B3, T3.grow hb, h3, h4, by have := hb.size; omega⟩, G.lo, G.hi, G.ne, G.r1, G.r2, G.r3, by have := G.size; have := hb.size; omega⟩

theorem shows_of {w : World} {keep : Bool} {N S p t po pi go gi sb q tq B : Nat} {v1 v2 v3 vq : Value} {s1 s2 s3 s4 : ByteArray} (G : TwoG w keep N S p t po pi go gi sb v1 v2 v3 (Lib.strCells s1) (Lib.strCells s2) (if keep then Lib.strCells s3 ++ Lib.strCells s4 else Lib.strCells s3))
    (P : IsParser w q keep tq (.slice none 0 0)) (T : Text w B tq vq (if keep then Lib.strCells s3 ++ Lib.strCells s4 else Lib.strCells s3) 1) (hB : N ≤ B) : Shows w N p sb go gi po pi t q tq s1 s2 (want keep s3 s4) := by
  obtain ⟨B1, T1, h1⟩ := G.Tt
  obtain ⟨B2, T2, h2⟩ := G.To
  obtain ⟨B3, T3, h3, _, _⟩ := G.Ti
  rw [cells_str] at T1 T2
  rw [want_cells] at T3 T
  exact ⟨G.par.gs, G.par.top, G.s0, G.s1, G.g0, G.g1, P.top, T1.reads.mono h1, T2.reads.mono h2, T3.reads.mono h3, T.reads.mono hB⟩

set_option maxHeartbeats 2000000 in
set_option maxRecDepth 100000 in
theorem law_small (keep : Bool) (s1 s2 s3 s4 : ByteArray) (w : World) (h1 : s1.size ≤ 262144) (h2 : s2.size ≤ 262144) (h3 : s3.size ≤ 262144) (h4 : s4.size ≤ 262144) :
    Calls Try.prog 3 #[.bool keep, .string s1, .string s2, .string s3, .string s4] w fun e w' => e = .returned (.bool true) ∧ Below w.heap.size w w' := by
  have Bz := Lib.hid (bytes_any keep s1 s2 s3 s4 w (by unfold maxLen; omega) (by unfold maxLen; omega) (by unfold maxLen; omega) (by unfold maxLen; omega))
  have N5 := Lib.hid (new5 keep s1 s2 s3 w (by omega) (by omega) (by omega))
  go_enter Try.func3, Try.ntmps3
  go_wp2_with fail
  refine Bz.out.mono ?_
  rintro e w' ⟨b, rfl, hw⟩
  subst w'
  cases b
  case false =>
    go_wp2
    go_ret
    exact ⟨rfl, Below.refl _ _⟩
  go_wp2_with fail
  refine N5.out.mono ?_
  rintro e w1 ⟨p, rfl, B1, t, po, pi, go, gi, sb, v1, v2, v3, G, hr3⟩
  have N6 := Lib.hid (new6 keep s3 w1 (by omega))
  have HG := Lib.hid G
  clear G N5 Bz
  go_wp2_with fail
  refine N6.out.mono ?_
  rintro e w2 ⟨rfl, B2, z2, P2, vq, T2⟩
  have z1 : w.heap.size ≤ w1.heap.size := B1.size
  have lq := T2.own.lt
  have G2 := HG.out.grow B2
  have B12 : Below w.heap.size w w2 := B1.trans (B2.mono z1)
  have hlen : (Lib.strCells s3).length + s4.size ≤ 140737488355328 := by rw [Lib.strCells_length]; omega
  have A1 := Lib.hid (zz_two w2 keep w.heap.size w1.heap.size p t po pi go gi sb v1 v2 v3 _ _ _ s4 G2 (by omega) hlen)
  have HP2 := Lib.hid P2
  have HT2 := Lib.hid T2
  have Hhi := Lib.hid HG.out.hi
  have Hr3 := Lib.hid HG.out.r3
  have HR3 := Lib.hid hr3
  clear G2 P2 T2 HG hr3 N6
  go_wp2_with fail
  refine A1.out.mono ?_
  rintro e w3 ⟨rfl, B3, v3', G3, L3, O3⟩
  have W3 := wrote_of B3 O3
  have P3 := HP2.out.wrote W3 (by have := Hhi.out; omega) (fun e => by have := HR3.out _ e; omega)
  have T3 := HT2.out.wrote W3 (by have := Hhi.out; omega) (fun e => by have := HR3.out _ e; omega) (fun k hk => ⟨by have := lq k hk; have := Hhi.out; omega, fun e => by have := HR3.out _ e; have := lq k hk; omega⟩)
  have z3 : w2.heap.size ≤ w3.heap.size := B3.size
  have A2 := Lib.hid (zz_top w3 keep w.heap.size (w1.heap.size + 2) (w1.heap.size + 1) w1.heap.size vq _ s4 P3 T3 (by omega) (by omega) (by omega) (by omega) (by omega) (fun k hk => by have := lq k hk; omega) hlen)
  have HG3 := Lib.hid G3
  have HL3 := Lib.hid L3
  have B13 : Below w.heap.size w w3 := B12.trans B3
  clear G3 L3 O3 W3 P3 T3 A1
  go_wp2_with fail
  refine A2.out.mono ?_
  rintro e w4 ⟨rfl, B4, ⟨vq', T4⟩, P4, O4⟩
  have G4 := HG3.out.wrote (wrote_of B4 O4) (Nat.le_refl _) (fun k hk => by have := lq k hk; omega) (fun k hk => by
    rcases HL3.out k hk with h | h
    · have := HR3.out k h
      exact ⟨by omega, fun e => by have := lq k e; omega⟩
    · exact ⟨by omega, fun e => by have := lq k e; omega⟩)
  have SH := shows_of G4 P4 T4 (by omega)
  have FIN := Lib.hid (B13.trans B4)
  clear G4 P4 T4 O4 HG3 HL3 HP2 HT2 Hhi Hr3 HR3 lq A2 B13 B12 B1 B2 B3 B4
  have R1 := Lib.hid (groupText w.heap.size p sb gi pi 1 (by omega) _ w4 SH.gs SH.b1 SH.p1 SH.r3)
  rw [back] at R1
  have HSH := Lib.hid SH
  clear SH
  have R2 := fun w5 (L : Looked w.heap.size w4 w5) => topText w.heap.size (w1.heap.size + 1) w1.heap.size _ w5 (HSH.out.looked L).qt (HSH.out.looked L).rq
  have R3 := fun w5 (L : Looked w.heap.size w4 w5) => groupText w.heap.size p sb go po 0 (by omega) _ w5 (HSH.out.looked L).gs (HSH.out.looked L).b0 (HSH.out.looked L).p0 (HSH.out.looked L).r2
  have R4 := fun w5 (L : Looked w.heap.size w4 w5) => topText w.heap.size p t _ w5 (HSH.out.looked L).top (HSH.out.looked L).r1
  simp only [back] at R2 R3 R4
  clear HSH
  have HR2 := Lib.hid R2
  have HR3 := Lib.hid R3
  have HR4 := Lib.hid R4
  clear R2 R3 R4
  cases keep
  case false =>
    simp only [want, Bool.false_eq_true, if_false] at R1 HR2
    go_wp2_with fail
    refine R1.out.mono ?_
    rintro e w5 ⟨rfl, L5⟩
    have C2 := Lib.hid (HR2.out w5 L5)
    have HL5 := Lib.hid L5
    clear L5
    go_wp2_with fail
    refine C2.out.mono ?_
    rintro e w6 ⟨rfl, L6⟩
    have C3 := Lib.hid (HR3.out w6 (HL5.out.trans L6))
    have HL6 := Lib.hid (HL5.out.trans L6)
    clear L6 HL5 C2
    go_wp2_with fail
    refine C3.out.mono ?_
    rintro e w7 ⟨rfl, L7⟩
    have C4 := Lib.hid (HR4.out w7 (HL6.out.trans L7))
    have HL7 := Lib.hid (HL6.out.trans L7)
    clear L7 HL6 C3
    go_wp2_with fail
    refine C4.out.mono ?_
    rintro e w8 ⟨rfl, L8⟩
    have FIN8 := Lib.hid (FIN.out.trans (HL7.out.trans L8).below)
    clear L8 HL7 C4 FIN
    go_wp2
    go_ret
    exact ⟨rfl, FIN8.out⟩
  case true =>
    simp only [want, if_true] at R1 HR2
    go_wp2_with fail
    refine R1.out.mono ?_
    rintro e w5 ⟨rfl, L5⟩
    have C2 := Lib.hid (HR2.out w5 L5)
    have HL5 := Lib.hid L5
    clear L5
    go_wp2_with fail
    refine C2.out.mono ?_
    rintro e w6 ⟨rfl, L6⟩
    have C3 := Lib.hid (HR3.out w6 (HL5.out.trans L6))
    have HL6 := Lib.hid (HL5.out.trans L6)
    clear L6 HL5 C2
    go_wp2_with fail
    refine C3.out.mono ?_
    rintro e w7 ⟨rfl, L7⟩
    have C4 := Lib.hid (HR4.out w7 (HL6.out.trans L7))
    have HL7 := Lib.hid (HL6.out.trans L7)
    clear L7 HL6 C3
    go_wp2_with fail
    refine C4.out.mono ?_
    rintro e w8 ⟨rfl, L8⟩
    have FIN8 := Lib.hid (FIN.out.trans (HL7.out.trans L8).below)
    clear L8 HL7 C4 FIN
    go_wp2
    go_ret
    exact ⟨rfl, FIN8.out⟩
end Go.Proofs.Qxb6616971a
