/-
  A LAW FOR A REGION THAT DRAWS ITS ORDER AND WRITES: the last operation waits for all; each other one, whenever it comes up, leaves a value of the kind that is named for it, keeps what the others have left, and keeps an invariant that may know who has come up. (No order is walked by itself: one induction serves all.)
-/
import Derived.Orders
import Derived.RegionTactic
import Derived.Below
namespace Go.Proofs.Qxb6616342a
open Go.RowKit

theorem filter_lt {p p' : Nat → Bool} {i : Nat} : ∀ l : List Nat, i ∈ l → (∀ j, p' j = true → p j = true) → p i = true → p' i = false → (l.filter p').length < (l.filter p).length
  | [], h, _, _, _ => by cases h
  | x :: l, h, hp, h1, h0 => by
    have hle : ∀ l : List Nat, (l.filter p').length ≤ (l.filter p).length := fun l => by
      induction l with
      | nil => simp
      | cons y l ih =>
        simp only [List.filter_cons]
        cases hy : p' y
        · cases p y <;> simp <;> omega
        · rw [hp y hy]; simp; omega
    simp only [List.filter_cons]
    rcases List.mem_cons.1 h with e | e
    · subst e
      rw [h1, h0]
      have := hle l
      simp
      omega
    · have := filter_lt l e hp h1 h0
      cases hy : p' x
      · cases p x <;> simp <;> omega
      · rw [hp x hy]; simp; omega

section
variable {P : Program} (ops : Array Oper) {Q : Exit → Act → World → Prop} (a0 : Act) (Inv : (Nat → Bool) → World → Prop) (m : Nat) (slot : Nat → Nat) (Val : Nat → World → Value → Prop) (deps : Nat → List Nat)

/-- What holds while the region runs. -/
structure Running (listed : Array Bool) (a : Act) (w : World) : Prop where
  size : listed.size = m + 1
  inv : Inv (fun j => listed.getD j true) w
  defers : a.defers = a0.defers
  tsize : a.tmps.size = a0.tmps.size
  other : ∀ t, (∀ i, i < m → slot i ≠ t) → a.tmps.getD t undef = a0.tmps.getD t undef
  val : ∀ i, i < m → listed.getD i true = true → Val i w (a.tmps.getD (slot i) undef)
  last : listed.getD m true = false
  closed : ∀ i o, i < m → listed.getD i true = true → ops[i]? = some o → ∀ e ∈ o.after, Region.binds .any e = true → listed.getD e.on true = true

/-- How many have not come up yet. -/
def unl (listed : Array Bool) : Nat := ((List.range (m + 1)).filter fun j => !listed.getD j true).length

theorem getD_set (listed : Array Bool) (i j : Nat) (h : i < listed.size) : (listed.setIfInBounds i true).getD j true = if i = j then true else listed.getD j true := by
  simp only [Array.getD_eq_getD_getElem?, Array.getElem?_setIfInBounds]
  split
  · rename_i e; subst e; simp
  · rfl

theorem unl_set {listed : Array Bool} {i : Nat} (hs : listed.size = m + 1) (h : listed.getD i true = false) : unl m (listed.setIfInBounds i true) < unl m listed := by
  have hi : i < listed.size := by
    rcases Nat.lt_or_ge i listed.size with h' | h'
    · exact h'
    · rw [Array.getD_eq_getD_getElem?, Array.getElem?_eq_none h'] at h; cases h
  refine filter_lt (i := i) _ (List.mem_range.2 (by omega)) (fun j hj => ?_) (by simp [h]) ?_
  · rw [getD_set _ _ _ hi] at hj
    split at hj
    · simp at hj
    · exact hj
  · rw [getD_set _ _ _ hi, if_pos rfl]; rfl

variable {ops}
theorem wpAny_end {listed : Array Bool} {a : Act} {w : World} (hr : Region.ready .any ops listed = []) (h : Q .normal a w) : ∀ fuel, wpAny P .any ops Q fuel listed a w
  | 0 => ⟨hr, h⟩
  | _ + 1 => ⟨fun _ => h, by rw [hr]; simp⟩

variable {a0 Inv m slot Val deps}

theorem wpOp_plain {i : Nat} {o : Oper} {K : Act → World → Prop} {a : Act} {w : World} (ho : ops[i]? = some o) (hg : o.guard = none) (h : o.wp P a w K Q) : wpOp P ops Q i K a w := by
  unfold wpOp
  rw [ho]
  simp only [Region.wanted, hg, if_true]
  exact Or.inl h

theorem wpOp_mono {i : Nat} {K K' : Act → World → Prop} {a : Act} {w : World} (hK : ∀ a w, K a w → K' a w) (h : wpOp P ops Q i K a w) : wpOp P ops Q i K' a w := by
  unfold wpOp at *
  cases ho : ops[i]? with
  | none =>
    rw [ho] at h
    exact hK _ _ h
  | some o =>
    rw [ho] at h
    cases hw : Region.wanted o (yielded ops a.tmps) with
    | false =>
      simp only [hw, Bool.false_eq_true, if_false] at h ⊢
      exact hK _ _ h
    | true =>
      simp only [hw, if_true] at h ⊢
      rcases h with h | h
      · exact Or.inl (Oper.wp_mono hK h)
      · exact Or.inr h

theorem wpOp_run {i : Nat} {o : Oper} {K : Act → World → Prop} {a : Act} {w : World} (ho : ops[i]? = some o) (hg : Region.wanted o (yielded ops a.tmps) = true) (h : o.wp P a w K Q) : wpOp P ops Q i K a w := by
  unfold wpOp
  rw [ho]
  simp only [hg, if_true]
  exact Or.inl h

theorem wpOp_skip {i : Nat} {o : Oper} {K : Act → World → Prop} {a : Act} {w : World} (ho : ops[i]? = some o) (hg : Region.wanted o (yielded ops a.tmps) = false) (h : K (a.put o.dst undef) w) : wpOp P ops Q i K a w := by
  unfold wpOp
  rw [ho]
  simp only [hg, Bool.false_eq_true, if_false]
  exact h

/-- THE LAW. -/
theorem region_grow {id : Nat} {w : World} (hm : P.follows .mixedOrders = true) (hinv : ∀ L : Nat → Bool, (∀ j, j < m + 1 → L j = false) → Inv L w.drew)
    (hsz : ops.size = m + 1) (hslot : ∀ i j, i < m → j < m → slot i = slot j → i = j) (hin : ∀ i, i < m → slot i < a0.tmps.size)
    (hback : ∀ (i : Nat) (o : Oper), ops[i]? = some o → ∀ e ∈ o.after, e.on < i)
    (hdeps : ∀ (i : Nat) (o : Oper), i < m → ops[i]? = some o → ∀ j ∈ deps i, ∃ e ∈ o.after, Region.binds .any e = true ∧ e.on = j ∧ j < m)
    (hall : ∀ j, j < m → ∃ i o, j < i ∧ i ≤ m ∧ ops[i]? = some o ∧ ∃ e ∈ o.after, Region.binds .any e = true ∧ e.on = j)
    (hstep : ∀ (i : Nat) (o : Oper), i < m → ops[i]? = some o → ∀ (L : Nat → Bool) a w, L i = false → Inv L w → (∀ t, (∀ i, i < m → slot i ≠ t) → a.tmps.getD t undef = a0.tmps.getD t undef) → (∀ j ∈ deps i, Val j w (a.tmps.getD (slot j) undef)) →
      wpOp P ops Q i (fun a' w' => ∃ v, a' = a.put (some (slot i)) v ∧ Val i w' v ∧ Inv (fun j => if i = j then true else L j) w' ∧ ∀ j u, j < m → j ≠ i → Val j w u → Val j w' u) a w)
    (hlast : ∀ (o : Oper), ops[m]? = some o → ∀ L a w, Inv L w → a.defers = a0.defers → a.tmps.size = a0.tmps.size → (∀ t, (∀ i, i < m → slot i ≠ t) → a.tmps.getD t undef = a0.tmps.getD t undef) → (∀ i, i < m → Val i w (a.tmps.getD (slot i) undef)) →
      wpOp P ops Q m (fun a' w' => Q .normal a' w') a w) :
    (Code.region id ops true).wp P Q a0 w := by
  have main : ∀ fuel listed a w, Running ops a0 Inv m slot Val listed a w → unl m listed ≤ fuel → wpAny P .any ops Q fuel listed a w := by
    intro fuel
    induction fuel with
    | zero =>
      intro listed a w R hf
      have hmem : m ∈ (List.range (m + 1)).filter fun j => !listed.getD j true := by
        rw [List.mem_filter]
        exact ⟨List.mem_range.2 (by omega), by rw [R.last]; rfl⟩
      have := List.length_pos_of_mem hmem
      unfold unl at hf
      omega
    | succ fuel ih =>
      intro listed a w R hf
      refine ⟨fun hr => ?_, fun i hi => ?_⟩
      · -- somebody can always come up
        exfalso
        have up : ∀ k, k ≤ m + 1 → ∀ j, j < k → listed.getD j true = true := by
          intro k
          induction k with
          | zero => intro _ j hj; omega
          | succ k ihk =>
            intro hk j hj
            have ihk' := ihk (by omega)
            rcases Nat.lt_or_ge j k with h | h
            · exact ihk' j h
            · obtain rfl : j = k := by omega
              cases hl : listed.getD j true with
              | true => rfl
              | false =>
                obtain ⟨o, ho⟩ : ∃ o, ops[j]? = some o := ⟨_, Array.getElem?_eq_getElem (by omega)⟩
                have : j ∈ Region.ready .any ops listed := mem_ready.2 ⟨hl, o, ho, fun e he _ => by
                  have h1 := hback j o ho e he
                  have h2 := ihk' e.on h1
                  have h3 : e.on < listed.size := by rw [R.size]; omega
                  simp only [Array.getD_eq_getD_getElem?, Array.getElem?_eq_getElem h3, Option.getD_some] at h2 ⊢
                  exact h2⟩
                rw [hr] at this
                cases this
        have := up (m + 1) (Nat.le_refl _) m (by omega)
        rw [R.last] at this
        cases this
      · obtain ⟨hun, o, ho, hed⟩ := mem_ready.1 hi
        have hi1 : i < m + 1 := by
          have := (Array.getElem?_eq_some_iff.1 ho).1
          omega
        have hil : i < listed.size := by rw [R.size]; exact hi1
        have lst : ∀ j, listed.getD j false = true → listed.getD j true = true := fun j hj => by
          rw [Array.getD_eq_getD_getElem?] at hj ⊢
          cases h : listed[j]? with
          | none => rfl
          | some b => rw [h] at hj; exact hj
        have hless := unl_set m R.size hun
        rcases Nat.lt_or_ge i m with him | him
        · have hd : ∀ j ∈ deps i, Val j w (a.tmps.getD (slot j) undef) := fun j hj => by
            obtain ⟨e, he, hb, hon, hjm⟩ := hdeps i o him ho j hj
            exact R.val j hjm (lst j (by rw [← hon]; exact hed e he hb))
          refine wpOp_mono (fun a' w' h => ?_) (hstep i o him ho _ a w hun R.inv R.other hd)
          obtain ⟨v, rfl, hv, hg, hkeep⟩ := h
          have hput : ∀ t, (a.put (some (slot i)) v).tmps.getD t undef = if slot i = t then v else a.tmps.getD t undef := fun t => by
            simp only [Act.put, Array.getD_eq_getD_getElem?, Array.getElem?_setIfInBounds]
            split
            · rename_i e; subst e; simp [R.tsize, hin i him]
            · rfl
          refine ih _ _ _ ⟨by simp [R.size], ?_, R.defers, by simp [Act.put, R.tsize], fun t ht => ?_, fun j hj hl => ?_, ?_, ?_⟩ (by omega)
          · have hE : (fun j => (listed.setIfInBounds i true).getD j true) = fun j => if i = j then true else listed.getD j true := funext fun j => getD_set _ _ _ hil
            rw [hE]
            exact hg
          · rw [hput, if_neg (ht i him)]; exact R.other t ht
          · rw [hput]
            rw [getD_set _ _ _ hil] at hl
            by_cases e : i = j
            · subst e; rw [if_pos rfl]; exact hv
            · rw [if_neg (fun h => e (hslot i j him hj h))]
              rw [if_neg e] at hl
              exact hkeep j _ hj (fun h => e h.symm) (R.val j hj hl)
          · rw [getD_set _ _ _ hil, if_neg (by omega)]; exact R.last
          · intro j oj hj hl hoj e he hb
            rw [getD_set _ _ _ hil]
            split
            · rfl
            · by_cases e' : i = j
              · subst e'
                rw [ho] at hoj
                cases hoj
                exact lst _ (hed e he hb)
              · rw [getD_set _ _ _ hil, if_neg e'] at hl
                exact R.closed j oj hj hl hoj e he hb
        · obtain rfl : i = m := by omega
          have hall' : ∀ d j, i - j ≤ d → j < i → listed.getD j true = true := by
            intro d
            induction d with
            | zero => intro j h1 h2; omega
            | succ d ihd =>
              intro j h1 h2
              obtain ⟨i', o', hji, hi'm, ho', e, he, hb, hon⟩ := hall j h2
              rcases Nat.lt_or_ge i' i with h3 | h3
              · rw [← hon]
                exact R.closed i' o' h3 (ihd i' (by omega) h3) ho' e he hb
              · obtain rfl : i' = i := by omega
                rw [ho] at ho'
                cases ho'
                exact lst j (by rw [← hon]; exact hed e he hb)
          have hall' : ∀ j, j < i → listed.getD j true = true := fun j hj => hall' _ j (Nat.le_refl _) hj
          have hv : ∀ j, j < i → Val j w (a.tmps.getD (slot j) undef) := fun j hj => R.val j hj (hall' j hj)
          refine wpOp_mono (fun a' w' h => ?_) (hlast o ho _ a w R.inv R.defers R.tsize R.other hv)
          refine wpAny_end ?_ h fuel
          refine List.eq_nil_iff_forall_not_mem.2 fun j hj => ?_
          obtain ⟨hj1, o', ho', _⟩ := mem_ready.1 hj
          rw [getD_set _ _ _ hil] at hj1
          have hjm : j < i + 1 := by
            have := (Array.getElem?_eq_some_iff.1 ho').1
            omega
          by_cases e : i = j
          · rw [if_pos e] at hj1; cases hj1
          · rw [if_neg e] at hj1
            have := hall' j (by omega)
            rw [hj1] at this
            cases this
  refine wp_region_any hm ?_
  refine main _ _ _ _ ⟨by simp [hsz], hinv _ (fun j hj => ?_), rfl, rfl, fun _ _ => rfl, fun i hi hl => ?_, ?_, fun i o hi hl => ?_⟩ ?_
  · rw [Array.getD_eq_getD_getElem?, Array.getElem?_eq_getElem (by simp; omega)]
    simp
  · rw [Array.getD_eq_getD_getElem?] at hl
    rw [Array.getElem?_eq_getElem (by simp; omega)] at hl
    simp at hl
  · rw [Array.getD_eq_getD_getElem?, Array.getElem?_eq_getElem (by simp; omega)]
    simp
  · rw [Array.getD_eq_getD_getElem?] at hl
    rw [Array.getElem?_eq_getElem (by simp; omega)] at hl
    simp at hl
  · unfold unl
    rw [hsz]
    exact Nat.le_trans (List.length_filter_le _ _) (by simp)
end


/-- The edges that are used, as closed checks. -/
def backB (ops : Array Oper) : Bool := (List.range ops.size).all fun i => match ops[i]? with | some o => o.guard.isNone && o.after.all (fun e => decide (e.on < i)) | none => true
def edgeB (o : Oper) (j : Nat) : Bool := o.after.any fun e => Region.binds .any e && e.on == j
def depsB (ops : Array Oper) (m : Nat) (deps : Nat → List Nat) : Bool := (List.range m).all fun i => match ops[i]? with | some o => (deps i).all fun j => decide (j < m) && edgeB o j | none => true
def allB (ops : Array Oper) (m : Nat) : Bool := (List.range m).all fun j => (List.range (m + 1)).any fun i => match ops[i]? with | some o => decide (j < i) && edgeB o j | none => false

theorem edge_of {o : Oper} {j : Nat} (h : edgeB o j = true) : ∃ e ∈ o.after, Region.binds .any e = true ∧ e.on = j := by
  unfold edgeB at h
  rw [Array.any_eq_true'] at h
  obtain ⟨e, he, hb⟩ := h
  rw [Bool.and_eq_true, beq_iff_eq] at hb
  exact ⟨e, he, hb.1, hb.2⟩

theorem back_of {ops : Array Oper} (h : backB ops = true) (i : Nat) (o : Oper) (ho : ops[i]? = some o) : o.guard = none ∧ ∀ e ∈ o.after, e.on < i := by
  unfold backB at h
  rw [List.all_eq_true] at h
  have := h i (List.mem_range.2 (Array.getElem?_eq_some_iff.1 ho).1)
  rw [ho] at this
  simp only [Bool.and_eq_true, Option.isNone_iff_eq_none, Array.all_eq_true_iff_forall_mem, decide_eq_true_eq] at this
  exact this

theorem deps_of {ops : Array Oper} {m : Nat} {deps : Nat → List Nat} (h : depsB ops m deps = true) (i : Nat) (o : Oper) (hi : i < m) (ho : ops[i]? = some o) (j : Nat) (hj : j ∈ deps i) : ∃ e ∈ o.after, Region.binds .any e = true ∧ e.on = j ∧ j < m := by
  unfold depsB at h
  rw [List.all_eq_true] at h
  have := h i (List.mem_range.2 hi)
  rw [ho] at this
  simp only [List.all_eq_true, Bool.and_eq_true, decide_eq_true_eq] at this
  obtain ⟨h1, h2⟩ := this j hj
  obtain ⟨e, he, hb, hon⟩ := edge_of h2
  exact ⟨e, he, hb, hon, h1⟩

theorem all_of {ops : Array Oper} {m : Nat} (h : allB ops m = true) (j : Nat) (hj : j < m) : ∃ i o, j < i ∧ i ≤ m ∧ ops[i]? = some o ∧ ∃ e ∈ o.after, Region.binds .any e = true ∧ e.on = j := by
  unfold allB at h
  simp only [List.all_eq_true, List.any_eq_true, List.mem_range] at h
  obtain ⟨i, hi, h⟩ := h j hj
  split at h
  · rename_i o ho
    rw [Bool.and_eq_true, decide_eq_true_eq] at h
    exact ⟨i, o, h.1, by omega, ho, edge_of h.2⟩
  · cases h

theorem guard_of {ops : Array Oper} (h : backB ops = true) (i : Nat) (o : Oper) (ho : ops[i]? = some o) : o.guard = none := (back_of h i o ho).1
def behindB (ops : Array Oper) : Bool := (List.range ops.size).all fun i => match ops[i]? with | some o => o.after.all (fun e => decide (e.on < i)) | none => true
theorem behind_of {ops : Array Oper} (h : behindB ops = true) (i : Nat) (o : Oper) (ho : ops[i]? = some o) : ∀ e ∈ o.after, e.on < i := by
  unfold behindB at h
  rw [List.all_eq_true] at h
  have := h i (List.mem_range.2 (Array.getElem?_eq_some_iff.1 ho).1)
  rw [ho] at this
  simp only [Array.all_eq_true_iff_forall_mem, decide_eq_true_eq] at this
  exact this

end Go.Proofs.Qxb6616342a
