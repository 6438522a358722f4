/-
  The map 'pending', keyed by a struct of a string and an int, its elements pointers: what a look-up and a store do.
-/
import Derived.Test.Qxb6616342aNew
import Derived.Laws.StructEq
import Derived.Maps.OwnOps
namespace Go.Proofs.Qxb6616342a
open Go.RowKit

/-- A key. -/
def kv (x : ByteArray × Int) : Value := .agg #[.string x.1, .int .i64 x.2]

theorem kv_inj {x y : ByteArray × Int} (h : kv x = kv y) : x = y := by
  simp only [kv, Value.agg.injEq, Array.mk.injEq, List.cons.injEq, Value.string.injEq, Value.int.injEq, true_and, and_true] at h
  exact Prod.ext h.1 h.2

theorem run_check (em : Bool) (x : ByteArray × Int) (w : World) : (Instr.checkKey em 10000 55 (kv x)).run Try.prog w = .ok () w := by
  have h1 : ∀ s : ByteArray, (Instr.checkKey em 9999 9 (.string s)).run Try.prog w = .ok () w := fun s => by
    show (Instr.checkKey em (9998 + 1) 9 (.string s)).run Try.prog w = .ok () w
    unfold Instr.checkKey
    simp [run_underlying Try.underlying9]
  have h2 : ∀ z : Int, (Instr.checkKey em 9999 3 (.int .i64 z)).run Try.prog w = .ok () w := fun z => by
    show (Instr.checkKey em (9998 + 1) 3 (.int .i64 z)).run Try.prog w = .ok () w
    unfold Instr.checkKey
    simp [run_underlying Try.underlying3]
  show (Instr.checkKey em (9998 + 1 + 1) 55 (kv x)).run Try.prog w = .ok () w
  unfold Instr.checkKey
  simp [run_underlying Try.underlying55, kv, go_sem, h1, h2]

theorem bytes_toList_inj {a b : ByteArray} (h : a.toList = b.toList) : a = b := by
  rw [ByteArray.toList_eq, ByteArray.toList_eq] at h
  obtain ⟨⟨x⟩⟩ := a
  obtain ⟨⟨y⟩⟩ := b
  simp only at h
  subst h
  rfl

theorem run_eq (x y : ByteArray × Int) (w : World) : (Op.equal 55 (kv x) (kv y)).run Try.prog w = .ok (decide (x = y)) w := by
  show (Op.equalIn (9998 + 1 + 1) 55 (kv x) (kv y)).run Try.prog w = _
  unfold kv
  rw [run_equalIn_struct w _ 55 _ _ (by kernel_rfl) (by kernel_rfl)]
  simp [Op.eqFields, go_sem]
  by_cases h : x = y
  · subst h
    simp
  · rw [decide_eq_false h]
    split
    · rename_i h1
      rw [if_neg (fun h2 => h (Prod.ext (bytes_toList_inj h1) h2))]
    · rfl

theorem run_stays (x : ByteArray × Int) (w : World) : (Instr.keyThatStays (kv x) (kv x)).run Try.prog w = .ok (kv x) w := by
  have h : Instr.sameBits 10000 (kv x) (kv x) = true := by
    show Instr.sameBits (9999 + 1) (kv x) (kv x) = true
    simp [kv, Instr.sameBits, beq_toListBytes]
  simp [Instr.keyThatStays, h]

theorem run_asking (x : ByteArray × Int) (w : World) : ∀ (es : List MapEntry) (i0 : Nat), (∀ e ∈ es, ∃ y, e.key = kv y) →
    ((Instr.findAsking 55 (kv x) es i0).run Try.prog w = .ok none w ∧ ∀ e ∈ es, e.key ≠ kv x) ∨ ∃ j e, (Instr.findAsking 55 (kv x) es i0).run Try.prog w = .ok (some (i0 + j, e.val)) w ∧ es[j]? = some e ∧ e.key = kv x
  | [], i0, _ => Or.inl ⟨by simp [Instr.findAsking], by simp⟩
  | e :: es, i0, h => by
    obtain ⟨y, hy⟩ := h e (by simp)
    by_cases hxy : x = y
    · refine Or.inr ⟨0, e, ?_, rfl, by rw [hy, hxy]⟩
      simp [Instr.findAsking, hy, run_eq, hxy]
    · rcases run_asking x w es (i0 + 1) (fun e he => h e (by simp [he])) with ⟨h1, h2⟩ | ⟨j, e', h1, h2, h3⟩
      · refine Or.inl ⟨by simp [Instr.findAsking, hy, run_eq, hxy, h1], fun e' he' => ?_⟩
        rcases List.mem_cons.1 he' with rfl | he'
        · rw [hy]; exact fun h => hxy (kv_inj h).symm
        · exact h2 e' he'
      · refine Or.inr ⟨j + 1, e', ?_, by simpa using h2, h3⟩
        simp [Instr.findAsking, hy, run_eq, hxy, h1]
        omega

theorem run_find (x : ByteArray × Int) (w : World) (es : List MapEntry) (h : ∀ e ∈ es, ∃ y, e.key = kv y) :
    ((Instr.findKey 55 (kv x) es).run Try.prog w = .ok none w ∧ ∀ e ∈ es, e.key ≠ kv x) ∨ ∃ j e, (Instr.findKey 55 (kv x) es).run Try.prog w = .ok (some (j, e.val)) w ∧ es[j]? = some e ∧ e.key = kv x := by
  have hk : (Instr.findKey 55 (kv x) es).run Try.prog w = (Instr.findAsking 55 (kv x) es 0).run Try.prog w := by
    cases es with
    | nil => simp [Instr.findKey, run_underlying Try.underlying55, Instr.findNow, Instr.findAsking]
    | cons e es => simp [Instr.findKey, run_underlying Try.underlying55, Instr.findNow, Instr.sameNow]
  rw [hk]
  rcases run_asking x w es 0 h with h1 | ⟨j, e, h1, h2⟩
  · exact Or.inl h1
  · exact Or.inr ⟨j, e, by simpa using h1, h2⟩

/-- BLOCK m OF w IS A MAP THAT HOLDS, at key x, a pointer to block 'f x'. -/
def MapFn (w : World) (m : Nat) (f : ByteArray × Int → Option Nat) : Prop :=
  ∃ es clock, w.heap[m]? = some (.map es clock) ∧ (es.toList.map (·.key)).Nodup ∧ (∀ e ∈ es.toList, ∃ x b, e.key = kv x ∧ e.val = .pointer (some ⟨b, 0, none⟩) ∧ f x = some b) ∧ ∀ x b, f x = some b → ∃ e ∈ es.toList, e.key = kv x

theorem MapFn.lt {w : World} {m : Nat} {f : ByteArray × Int → Option Nat} (h : MapFn w m f) : m < w.heap.size := by
  obtain ⟨es, clock, hb, _⟩ := h
  exact lt_of_block hb

theorem MapFn.kept {w w' : World} {m : Nat} {f : ByteArray × Int → Option Nat} (h : MapFn w m f) (hb : w'.heap[m]? = w.heap[m]?) : MapFn w' m f := by
  obtain ⟨es, clock, h1, h2⟩ := h
  exact ⟨es, clock, hb.trans h1, h2⟩

theorem mapFn_made (w : World) : MapFn (w.alloc (.map #[] 0)) w.heap.size (fun _ => none) :=
  ⟨#[], 0, heap_alloc_new _ _, by simp, by simp, by simp⟩

/-- What 'm[k]' gives. -/
def gives (o : Option Nat) : Value := match o with | some b => .pointer (some ⟨b, 0, none⟩) | none => .pointer none

theorem MapFn.lookup {w : World} {m : Nat} {f : ByteArray × Int → Option Nat} (h : MapFn w m f) (x : ByteArray × Int) : (Instr.lookup 49 (.map (some m)) (kv x) false).run Try.prog w = .ok (gives (f x)) w := by
  obtain ⟨es, clock, hb, _, h2, h3⟩ := h
  have hz : (zeroValue 51).run Try.prog w = .ok (.pointer none) w := by rfl
  rcases run_find x w es.toList (fun e he => by obtain ⟨y, _, hy, _⟩ := h2 e he; exact ⟨y, hy⟩) with ⟨r1, r2⟩ | ⟨j, e, r1, r2, r3⟩
  · have hn : f x = none := by
      cases hf : f x with
      | none => rfl
      | some b =>
        obtain ⟨e, he, hk⟩ := h3 x b hf
        exact absurd hk (r2 e he)
    simp [Instr.lookup, run_underlying Try.underlying49, MapKept.run_getObj_map hb, run_check, r1, hz, hn, gives, Result.andThen]
  · obtain ⟨y, b, hy, hv, hf⟩ := h2 e (List.mem_of_getElem? r2)
    have : y = x := kv_inj (hy.symm.trans r3)
    subst this
    simp [Instr.lookup, run_underlying Try.underlying49, MapKept.run_getObj_map hb, run_check, r1, hv, hf, gives, Result.andThen]

theorem nodup_ne {l : List MapEntry} (h : (l.map (·.key)).Nodup) {i j : Nat} {a b : MapEntry} (hi : l[i]? = some a) (hj : l[j]? = some b) (hne : i ≠ j) : a.key ≠ b.key := by
  have hp := List.pairwise_iff_getElem.1 (List.pairwise_map.1 h)
  obtain ⟨li, ei⟩ := List.getElem?_eq_some_iff.1 hi
  obtain ⟨lj, ej⟩ := List.getElem?_eq_some_iff.1 hj
  rcases Nat.lt_or_gt_of_ne hne with h | h
  · have := hp i j li lj h
    rw [ei, ej] at this
    exact this
  · have := hp j i lj li h
    rw [ei, ej] at this
    exact this.symm

theorem MapFn.update {w : World} {m : Nat} {f : ByteArray × Int → Option Nat} (h : MapFn w m f) (x : ByteArray × Int) (b : Nat) :
    ∃ w', (Instr.mapUpdate 49 (.map (some m)) (kv x) (.pointer (some ⟨b, 0, none⟩))).run Try.prog w = .ok () w' ∧ MapFn w' m (fun y => if y = x then some b else f y) ∧ w.grownBy w' (some m) := by
  obtain ⟨es, clock, hb, h1, h2, h3⟩ := h
  rcases run_find x w es.toList (fun e he => by obtain ⟨y, _, hy, _⟩ := h2 e he; exact ⟨y, hy⟩) with ⟨r1, r2⟩ | ⟨j, e, r1, r2, r3⟩
  · refine ⟨ChangeMaps.setBlock w m (.map (es.push ⟨kv x, .pointer (some ⟨b, 0, none⟩), clock⟩) (clock + 1)), ?_, ⟨_, _, ChangeMaps.heap_setBlock_same hb _, ?_, ?_, ?_⟩, ⟨rfl, rfl, rfl, by simp [ChangeMaps.setBlock], fun i _ hi => ChangeMaps.heap_setBlock_other hb _ (fun e => hi (by rw [e]))⟩⟩
    · simp [Instr.mapUpdate, run_underlying Try.underlying49, MapKept.run_getObj_map hb, run_check, r1, MapKept.run_setObj_map _ hb, Result.andThen, ChangeMaps.setBlock]
    · simp only [Array.toList_push, List.map_append, List.map_cons, List.map_nil]
      rw [List.nodup_append]
      refine ⟨h1, by simp, ?_⟩
      intro a ha c hc
      simp only [List.mem_singleton] at hc
      subst hc
      obtain ⟨e, he, rfl⟩ := List.mem_map.1 ha
      exact r2 e he
    · intro e he
      simp only [Array.toList_push, List.mem_append, List.mem_singleton] at he
      rcases he with he | rfl
      · obtain ⟨y, c, hy, hv, hf⟩ := h2 e he
        have : y ≠ x := fun e' => r2 e he (by rw [hy, e'])
        exact ⟨y, c, hy, hv, by simp [this, hf]⟩
      · exact ⟨x, b, rfl, rfl, by simp⟩
    · intro y c hy
      by_cases e' : y = x
      · subst e'
        exact ⟨_, by simp only [Array.toList_push, List.mem_append, List.mem_singleton]; exact Or.inr rfl, rfl⟩
      · replace hy : f y = some c := by simpa only [if_neg e'] using hy
        obtain ⟨e, he, hk⟩ := h3 y c hy
        exact ⟨e, by simp [Array.toList_push, he], hk⟩
  · have hj : es[j]? = some e := by simpa using r2
    have hlist : (es.modify j (fun e' => { e' with key := kv x, val := .pointer (some ⟨b, 0, none⟩) })).toList = es.toList.set j { e with key := kv x, val := .pointer (some ⟨b, 0, none⟩) } := by rw [Array.toList_modify, ChangeMaps.modify_eq_set _ _ _ _ r2]
    have hjl : j < es.toList.length := (List.getElem?_eq_some_iff.1 r2).1
    refine ⟨ChangeMaps.setBlock w m (.map (es.modify j (fun e' => { e' with key := kv x, val := .pointer (some ⟨b, 0, none⟩) })) clock), ?_, ⟨_, _, ChangeMaps.heap_setBlock_same hb _, ?_, ?_, ?_⟩, ⟨rfl, rfl, rfl, by simp [ChangeMaps.setBlock], fun i _ hi => ChangeMaps.heap_setBlock_other hb _ (fun e => hi (by rw [e]))⟩⟩
    · simp [Instr.mapUpdate, run_underlying Try.underlying49, MapKept.run_getObj_map hb, run_check, r1, hj, r3, run_stays, MapKept.run_setObj_map _ hb, Result.andThen, ChangeMaps.setBlock]
    · rw [hlist, List.map_set]
      have : (es.toList.map (·.key)).set j (kv x) = es.toList.map (·.key) := by
        apply List.ext_getElem?
        intro i
        rw [List.getElem?_set]
        split
        · rename_i e'
          subst e'
          simp [hj, r3]
          simpa using hjl
        · rfl
      rw [this]
      exact h1
    · intro e' he'
      rw [hlist] at he'
      obtain ⟨i, hi⟩ := List.getElem?_of_mem he'
      rw [List.getElem?_set] at hi
      split at hi
      · rename_i hij
        cases hi
        exact ⟨x, b, rfl, rfl, by simp⟩
      · rename_i hij
        obtain ⟨y, c, hy, hv, hf⟩ := h2 e' (List.mem_of_getElem? hi)
        have : y ≠ x := fun h' => nodup_ne h1 hi r2 (fun h => hij h.symm) (by rw [hy, r3, h'])
        exact ⟨y, c, hy, hv, by simp [this, hf]⟩
    · intro y c hy
      rw [hlist]
      by_cases e' : y = x
      · subst e'
        exact ⟨_, List.mem_set hjl _, rfl⟩
      · replace hy : f y = some c := by simpa only [if_neg e'] using hy
        obtain ⟨e0, he, hk⟩ := h3 y c hy
        obtain ⟨i, hi⟩ := List.getElem?_of_mem he
        have hij : j ≠ i := fun h => by
          subst h
          rw [r2] at hi
          cases hi
          exact e' (kv_inj (hk.symm.trans r3))
        exact ⟨e0, List.mem_of_getElem? (i := i) (by rw [List.getElem?_set, if_neg hij]; exact hi), hk⟩
end Go.Proofs.Qxb6616342a
