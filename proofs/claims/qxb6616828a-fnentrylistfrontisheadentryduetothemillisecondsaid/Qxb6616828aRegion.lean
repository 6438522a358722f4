/-
  A LAW FOR A REGION THAT DRAWS ITS ORDER AND MAKES MEMORY: every operation but the last only reads or makes new memory; the last waits for all. Whatever order is drawn: each operation's slot ends with a value of the kind that is named for it, and the world has only grown. (No order is walked by itself: one induction serves all.)
-/
import Derived.Orders
import Derived.RegionTactic
import Derived.Below
namespace Go.Proofs.Qxb6616828a
open Go.RowKit

/-- The world has grown: all that was there is as it was. -/
def Grow (w w' : World) : Prop := Below w.heap.size w w'
theorem Grow.refl (w : World) : Grow w w := Below.refl _ _
theorem Grow.trans {a b c : World} (h : Grow a b) (k : Grow b c) : Grow a c := Below.trans h (Below.mono k (Below.size h))
theorem Grow.alloc (w : World) (o : Obj) : Grow w (w.alloc o) := (Below.refl _ _).alloc (Nat.le_refl _) _

theorem filter_lt {p p' : Nat → Bool} {i : Nat} : ∀ l : List Nat, i ∈ l → (∀ j, p' j = true → p j = true) → p i = true → p' i = false → (l.filter p').length < (l.filter p).length
  | [], h, _, _, _ => by cases h
  | x :: l, h, hp, h1, h0 => by
    have hle : ∀ l : List Nat, (l.filter p').length ≤ (l.filter p).length := fun l => by
      induction l with
      | nil => simp
      | cons y l ih =>
        simp only [List.filter_cons]
        cases hy : p' y
        · cases p y <;> simp <;> omega
        · rw [hp y hy]; simp; omega
    simp only [List.filter_cons]
    rcases List.mem_cons.1 h with e | e
    · subst e
      rw [h1, h0]
      have := hle l
      simp
      omega
    · have := filter_lt l e hp h1 h0
      cases hy : p' x
      · cases p x <;> simp <;> omega
      · rw [hp x hy]; simp; omega

section
variable {P : Program} {ops : Array Oper} {Q : Exit → Act → World → Prop} (a0 : Act) (w0 : World) (m : Nat) (slot : Nat → Nat) (Val : Nat → World → Value → Prop) (deps : Nat → List Nat)

/-- What holds while the region runs. -/
structure Running (listed : Array Bool) (a : Act) (w : World) : Prop where
  size : listed.size = m + 1
  grow : Grow w0 w
  defers : a.defers = a0.defers
  tsize : a.tmps.size = a0.tmps.size
  other : ∀ t, (∀ i, i < m → slot i ≠ t) → a.tmps.getD t undef = a0.tmps.getD t undef
  val : ∀ i, i < m → listed.getD i true = true → Val i w (a.tmps.getD (slot i) undef)
  last : listed.getD m true = false

/-- How many have not come up yet. -/
def unl (listed : Array Bool) : Nat := ((List.range (m + 1)).filter fun j => !listed.getD j true).length

theorem getD_set (listed : Array Bool) (i j : Nat) (h : i < listed.size) : (listed.setIfInBounds i true).getD j true = if i = j then true else listed.getD j true := by
  simp only [Array.getD_eq_getD_getElem?, Array.getElem?_setIfInBounds]
  split
  · rename_i e; subst e; simp
  · rfl

theorem unl_set {listed : Array Bool} {i : Nat} (hs : listed.size = m + 1) (h : listed.getD i true = false) : unl m (listed.setIfInBounds i true) < unl m listed := by
  have hi : i < listed.size := by
    rcases Nat.lt_or_ge i listed.size with h' | h'
    · exact h'
    · rw [Array.getD_eq_getD_getElem?, Array.getElem?_eq_none h'] at h; cases h
  refine filter_lt (i := i) _ (List.mem_range.2 (by omega)) (fun j hj => ?_) (by simp [h]) ?_
  · rw [getD_set _ _ _ hi] at hj
    split at hj
    · simp at hj
    · exact hj
  · rw [getD_set _ _ _ hi, if_pos rfl]; rfl

theorem wpAny_end {listed : Array Bool} {a : Act} {w : World} (hr : Region.ready .any ops listed = []) (h : Q .normal a w) : ∀ fuel, wpAny P .any ops Q fuel listed a w
  | 0 => ⟨hr, h⟩
  | _ + 1 => ⟨fun _ => h, by rw [hr]; simp⟩

variable {a0 w0 m slot Val deps}

theorem wpOp_plain {i : Nat} {o : Oper} {K : Act → World → Prop} {a : Act} {w : World} (ho : ops[i]? = some o) (hg : o.guard = none) (h : o.wp P a w K Q) : wpOp P ops Q i K a w := by
  unfold wpOp
  rw [ho]
  simp only [Region.wanted, hg, if_true]
  exact Or.inl h

/-- THE LAW. -/
theorem region_grow {id : Nat} {w : World} (hm : P.follows .mixedOrders = true) (hw0 : w0 = w.drew)
    (hsz : ops.size = m + 1) (hslot : ∀ i j, i < m → j < m → slot i = slot j → i = j) (hin : ∀ i, i < m → slot i < a0.tmps.size)
    (hback : ∀ (i : Nat) (o : Oper), ops[i]? = some o → o.guard = none ∧ ∀ e ∈ o.after, e.on < i)
    (hdeps : ∀ (i : Nat) (o : Oper), i < m → ops[i]? = some o → ∀ j ∈ deps i, ∃ e ∈ o.after, Region.binds .any e = true ∧ e.on = j ∧ j < m)
    (hall : ∀ (o : Oper), ops[m]? = some o → ∀ j, j < m → ∃ e ∈ o.after, Region.binds .any e = true ∧ e.on = j)
    (hstable : ∀ i w w' v, i < m → Val i w v → Grow w w' → Val i w' v)
    (hstep : ∀ (i : Nat) (o : Oper), i < m → ops[i]? = some o → ∀ a w, Grow w0 w → (∀ t, (∀ i, i < m → slot i ≠ t) → a.tmps.getD t undef = a0.tmps.getD t undef) → (∀ j ∈ deps i, Val j w (a.tmps.getD (slot j) undef)) →
      o.wp P a w (fun a' w' => ∃ v, a' = a.put (some (slot i)) v ∧ Val i w' v ∧ Grow w w') Q)
    (hlast : ∀ (o : Oper), ops[m]? = some o → ∀ a w, Grow w0 w → a.defers = a0.defers → a.tmps.size = a0.tmps.size → (∀ t, (∀ i, i < m → slot i ≠ t) → a.tmps.getD t undef = a0.tmps.getD t undef) → (∀ i, i < m → Val i w (a.tmps.getD (slot i) undef)) →
      o.wp P a w (fun a' w' => Q .normal a' w') Q) :
    (Code.region id ops true).wp P Q a0 w := by
  have main : ∀ fuel listed a w, Running a0 w0 m slot Val listed a w → unl m listed ≤ fuel → wpAny P .any ops Q fuel listed a w := by
    intro fuel
    induction fuel with
    | zero =>
      intro listed a w R hf
      have hmem : m ∈ (List.range (m + 1)).filter fun j => !listed.getD j true := by
        rw [List.mem_filter]
        exact ⟨List.mem_range.2 (by omega), by rw [R.last]; rfl⟩
      have := List.length_pos_of_mem hmem
      unfold unl at hf
      omega
    | succ fuel ih =>
      intro listed a w R hf
      refine ⟨fun hr => ?_, fun i hi => ?_⟩
      · -- somebody can always come up
        exfalso
        have up : ∀ k, k ≤ m + 1 → ∀ j, j < k → listed.getD j true = true := by
          intro k
          induction k with
          | zero => intro _ j hj; omega
          | succ k ihk =>
            intro hk j hj
            have ihk' := ihk (by omega)
            rcases Nat.lt_or_ge j k with h | h
            · exact ihk' j h
            · obtain rfl : j = k := by omega
              cases hl : listed.getD j true with
              | true => rfl
              | false =>
                obtain ⟨o, ho⟩ : ∃ o, ops[j]? = some o := ⟨_, Array.getElem?_eq_getElem (by omega)⟩
                have : j ∈ Region.ready .any ops listed := mem_ready.2 ⟨hl, o, ho, fun e he _ => by
                  have h1 := (hback j o ho).2 e he
                  have h2 := ihk' e.on h1
                  have h3 : e.on < listed.size := by rw [R.size]; omega
                  simp only [Array.getD_eq_getD_getElem?, Array.getElem?_eq_getElem h3, Option.getD_some] at h2 ⊢
                  exact h2⟩
                rw [hr] at this
                cases this
        have := up (m + 1) (Nat.le_refl _) m (by omega)
        rw [R.last] at this
        cases this
      · obtain ⟨hun, o, ho, hed⟩ := mem_ready.1 hi
        have hi1 : i < m + 1 := by
          have := (Array.getElem?_eq_some_iff.1 ho).1
          omega
        have hil : i < listed.size := by rw [R.size]; exact hi1
        have lst : ∀ j, listed.getD j false = true → listed.getD j true = true := fun j hj => by
          rw [Array.getD_eq_getD_getElem?] at hj ⊢
          cases h : listed[j]? with
          | none => rfl
          | some b => rw [h] at hj; exact hj
        have hless := unl_set m R.size hun
        rcases Nat.lt_or_ge i m with him | him
        · have hd : ∀ j ∈ deps i, Val j w (a.tmps.getD (slot j) undef) := fun j hj => by
            obtain ⟨e, he, hb, hon, hjm⟩ := hdeps i o him ho j hj
            exact R.val j hjm (lst j (by rw [← hon]; exact hed e he hb))
          refine wpOp_plain ho (hback i o ho).1 (Oper.wp_mono (fun a' w' h => ?_) (hstep i o him ho a w R.grow R.other hd))
          obtain ⟨v, rfl, hv, hg⟩ := h
          have hput : ∀ t, (a.put (some (slot i)) v).tmps.getD t undef = if slot i = t then v else a.tmps.getD t undef := fun t => by
            simp only [Act.put, Array.getD_eq_getD_getElem?, Array.getElem?_setIfInBounds]
            split
            · rename_i e; subst e; simp [R.tsize, hin i him]
            · rfl
          refine ih _ _ _ ⟨by simp [R.size], R.grow.trans hg, R.defers, by simp [Act.put, R.tsize], fun t ht => ?_, fun j hj hl => ?_, ?_⟩ (by omega)
          · rw [hput, if_neg (ht i him)]; exact R.other t ht
          · rw [hput]
            rw [getD_set _ _ _ hil] at hl
            by_cases e : i = j
            · subst e; rw [if_pos rfl]; exact hv
            · rw [if_neg (fun h => e (hslot i j him hj h))]
              rw [if_neg e] at hl
              exact hstable j _ _ _ hj (R.val j hj hl) hg
          · rw [getD_set _ _ _ hil, if_neg (by omega)]; exact R.last
        · obtain rfl : i = m := by omega
          have hv : ∀ j, j < i → Val j w (a.tmps.getD (slot j) undef) := fun j hj => by
            obtain ⟨e, he, hb, hon⟩ := hall o ho j hj
            exact R.val j hj (lst j (by rw [← hon]; exact hed e he hb))
          refine wpOp_plain ho (hback i o ho).1 (Oper.wp_mono (fun a' w' h => ?_) (hlast o ho a w R.grow R.defers R.tsize R.other hv))
          refine wpAny_end ?_ h fuel
          refine List.eq_nil_iff_forall_not_mem.2 fun j hj => ?_
          obtain ⟨hj1, o', ho', _⟩ := mem_ready.1 hj
          rw [getD_set _ _ _ hil] at hj1
          have hjm : j < i + 1 := by
            have := (Array.getElem?_eq_some_iff.1 ho').1
            omega
          by_cases e : i = j
          · rw [if_pos e] at hj1; cases hj1
          · rw [if_neg e] at hj1
            obtain ⟨e', he', hb', hon'⟩ := hall o ho j (by omega)
            have := lst j (by rw [← hon']; exact hed e' he' hb')
            rw [hj1] at this
            cases this
  refine wp_region_any hm ?_
  subst hw0
  refine main _ _ _ _ ⟨by simp [hsz], Grow.refl _, rfl, rfl, fun _ _ => rfl, fun i hi hl => ?_, ?_⟩ ?_
  · rw [Array.getD_eq_getD_getElem?] at hl
    rw [Array.getElem?_eq_getElem (by simp; omega)] at hl
    simp at hl
  · rw [Array.getD_eq_getD_getElem?, Array.getElem?_eq_getElem (by simp; omega)]
    simp
  · unfold unl
    rw [hsz]
    exact Nat.le_trans (List.length_filter_le _ _) (by simp)
end
end Go.Proofs.Qxb6616828a
