/- A region that draws its order, whose operations only add to memory: each operation is shown once, whatever order is picked. Conditions: see the theorem. -/
import Derived.OrdersHeld
import Derived.Below
import Derived.RegionTactic
namespace Go.Last
open Go Go.RowKit
/-- Each operation writes a slot of its own, has no guard, and waits for earlier ones alone. -/
def Region.monoB (ops : Array Oper) (n : Nat) : Bool :=
  (List.range ops.size).all fun i => match ops[i]? with
    | some o => (match o.dst with | some t => decide (t < n) | none => false) && o.guard.isNone && o.after.all (fun e => decide (e.on < i)) &&
        (List.range ops.size).all fun j => j == i || (match ops[j]? with | some o' => o'.dst != o.dst | none => true)
    | none => false
section
variable {P : Program} {ops : Array Oper} {Q : Exit → Act → World → Prop} {md : Region.Mode} {PV : Nat → Value → World → Prop} {I : World → Prop} {a0 : Act}
/-- The slot is none that an operation of the region writes. -/
def Outside (ops : Array Oper) (t : Nat) : Prop := ∀ (i : Nat) (o : Oper), ops[i]? = some o → o.dst ≠ some t
structure MI (PV : Nat → Value → World → Prop) (I : World → Prop) (ops : Array Oper) (a0 : Act) (listed : Array Bool) (a : Act) (w : World) : Prop where
  size : a.tmps.size = a0.tmps.size
  defers : a.defers = a0.defers
  lsize : listed.size = ops.size
  old : ∀ t, Outside ops t → a.tmps.getD t undef = a0.tmps.getD t undef
  inv : I w
  post : ∀ (i : Nat) o t, ops[i]? = some o → o.dst = some t → listed.getD i false = true → PV t (a.tmps.getD t undef) w
theorem monoB_spec {n : Nat} (h : Region.monoB ops n = true) {i : Nat} {o : Oper} (ho : ops[i]? = some o) : (∃ t, o.dst = some t ∧ t < n) ∧ o.guard = none ∧ (∀ e ∈ o.after, e.on < i) ∧ ∀ (j : Nat) o', j ≠ i → ops[j]? = some o' → o'.dst ≠ o.dst := by
  have hlt : i < ops.size := (Array.getElem?_eq_some_iff.1 ho).1
  have h1 := List.all_eq_true.1 h i (List.mem_range.2 hlt)
  simp only [ho] at h1
  rw [Bool.and_eq_true, Bool.and_eq_true, Bool.and_eq_true] at h1
  obtain ⟨⟨⟨h2, h3⟩, h4⟩, h5⟩ := h1
  refine ⟨?_, by simpa using h3, fun e he => by simpa using Array.all_eq_true_iff_forall_mem.1 h4 e he, fun j o' hj hoj => ?_⟩
  · cases hd : o.dst with
    | none => rw [hd] at h2; simp at h2
    | some t => rw [hd] at h2; exact ⟨t, rfl, by simpa using h2⟩
  · have hjl : j < ops.size := (Array.getElem?_eq_some_iff.1 hoj).1
    have h6 := List.all_eq_true.1 h5 j (List.mem_range.2 hjl)
    simp only [hoj, Bool.or_eq_true, beq_iff_eq, bne_iff_ne] at h6
    exact h6.resolve_left hj
theorem getD_put {a : Act} {t s : Nat} {v : Value} : (a.put (some t) v).tmps.getD s undef = if t = s ∧ t < a.tmps.size then v else a.tmps.getD s undef := by
  show (a.tmps.setIfInBounds t v).getD s undef = _
  simp only [Array.getD_eq_getD_getElem?, Array.getElem?_setIfInBounds]
  by_cases h : t = s
  · subst h
    by_cases h2 : t < a.tmps.size
    · simp [h2]
    · simp [h2]
  · simp [h]
theorem MI.more {listed : Array Bool} {a : Act} {w w' : World} {i : Nat} {o : Oper} {t : Nat} {v : Value} (h : MI PV I ops a0 listed a w) (hok : Region.monoB ops a0.tmps.size = true) (hI : ∀ w w', I w → Below w.heap.size w w' → I w')
    (hPV : ∀ t v w w', PV t v w → Below w.heap.size w w' → PV t v w') (ho : ops[i]? = some o) (hd : o.dst = some t) (hb : Below w.heap.size w w') (hv : PV t v w') : MI PV I ops a0 (listed.setIfInBounds i true) (a.put (some t) v) w' := by
  obtain ⟨⟨t', ht', htn⟩, _, _, hne⟩ := monoB_spec hok ho
  obtain rfl : t' = t := Option.some.inj (ht'.symm.trans hd)
  refine ⟨?_, h.defers, by rw [Array.size_setIfInBounds]; exact h.lsize, fun s hs => ?_, hI _ _ h.inv hb, fun j oj s hj hs hl => ?_⟩
  · show (a.tmps.setIfInBounds t' v).size = _
    rw [Array.size_setIfInBounds]; exact h.size
  · rw [getD_put, if_neg (fun e => hs i o ho (by rw [hd, e.1]))]
    exact h.old s hs
  · rw [getD_put]
    by_cases hji : j = i
    · subst hji
      obtain rfl : oj = o := Option.some.inj (hj.symm.trans ho)
      obtain rfl : s = t' := Option.some.inj (hs.symm.trans hd)
      rw [if_pos ⟨rfl, by rw [h.size]; exact htn⟩]
      exact hv
    · have hst : t' ≠ s := fun e => hne j oj hji hj (by rw [hs, hd, e])
      rw [if_neg (fun e => hst e.1)]
      have hl' : listed.getD j false = true := by
        rw [Array.getD_eq_getD_getElem?, Array.getElem?_setIfInBounds, if_neg (fun e => hji e.symm)] at hl
        rw [Array.getD_eq_getD_getElem?]
        exact hl
      exact hPV _ _ _ _ (h.post j oj s hj hs hl') hb
theorem ready_nil {listed : Array Bool} (hok : Region.monoB ops a0.tmps.size = true) (hs : listed.size = ops.size) (h : Region.ready md ops listed = []) : ∀ i, i < ops.size → listed.getD i false = true := by
  intro i
  induction i using Nat.strongRecOn with
  | _ i ih =>
    intro hi
    cases hl : listed.getD i false with
    | true => rfl
    | false =>
      exfalso
      have ho : ops[i]? = some ops[i] := Array.getElem?_eq_getElem hi
      have hm : i ∈ Region.ready md ops listed := by
        refine mem_ready.2 ⟨?_, ops[i], ho, fun e he _ => ?_⟩
        · have hil : i < listed.size := by omega
          rw [Array.getD_eq_getD_getElem?, Array.getElem?_eq_getElem hil] at hl ⊢
          exact hl
        · have hlt := (monoB_spec hok ho).2.2.1 e he
          exact ih e.on hlt (by omega)
      rw [h] at hm
      simp at hm
/-- How many have not come up. -/
def unl (listed : Array Bool) (n : Nat) : Nat := ((List.range n).filter (fun i => !listed.getD i true)).length
theorem unl_set {listed : Array Bool} {n i : Nat} (hi : i < n) (hl : listed.getD i true = false) : unl (listed.setIfInBounds i true) n < unl listed n := by
  unfold unl
  have hil : i < listed.size := by
    rcases Nat.lt_or_ge i listed.size with h | h
    · exact h
    · rw [Array.getD_eq_getD_getElem?, Array.getElem?_eq_none h] at hl; simp at hl
  have e : (List.range n).filter (fun j => !(listed.setIfInBounds i true).getD j true) = ((List.range n).filter (fun j => !listed.getD j true)).filter (fun j => !(listed.setIfInBounds i true).getD j true) := by
    rw [List.filter_filter]
    apply List.filter_congr
    intro j _
    by_cases hji : i = j
    · subst hji
      have : (listed.setIfInBounds i true).getD i true = true := by rw [Array.getD_eq_getD_getElem?, Array.getElem?_setIfInBounds]; simp [hil]
      rw [this]
      simp
    · have : (listed.setIfInBounds i true).getD j true = listed.getD j true := by rw [Array.getD_eq_getD_getElem?, Array.getD_eq_getD_getElem?, Array.getElem?_setIfInBounds, if_neg hji]
      rw [this, Bool.and_self]
  rw [e]
  apply List.length_filter_lt_length_iff_exists.2
  refine ⟨i, List.mem_filter.2 ⟨List.mem_range.2 hi, by rw [hl]; rfl⟩, ?_⟩
  have : (listed.setIfInBounds i true).getD i true = true := by rw [Array.getD_eq_getD_getElem?, Array.getElem?_setIfInBounds]; simp [hil]
  rw [this]
  simp
theorem wpAny_mono_ (hok : Region.monoB ops a0.tmps.size = true) (hI : ∀ w w', I w → Below w.heap.size w w' → I w') (hPV : ∀ t v w w', PV t v w → Below w.heap.size w w' → PV t v w')
    (hstep : ∀ (i : Nat) o, ops[i]? = some o → ∀ (a : Act) (w : World), I w → (∀ t, Outside ops t → a.tmps.getD t undef = a0.tmps.getD t undef) → (∀ e ∈ o.after, Region.binds md e = true → ∀ oe t, ops[e.on]? = some oe → oe.dst = some t → PV t (a.tmps.getD t undef) w) →
      ∀ K : Act → World → Prop, (∀ v w' t, o.dst = some t → Below w.heap.size w w' → PV t v w' → K (a.put o.dst v) w') → Oper.wp P o a w K Q)
    (hend : ∀ (a : Act) (w : World), a.defers = a0.defers → I w → (∀ t, Outside ops t → a.tmps.getD t undef = a0.tmps.getD t undef) → (∀ (i : Nat) o t, ops[i]? = some o → o.dst = some t → PV t (a.tmps.getD t undef) w) → Q .normal a w) :
    ∀ (fuel : Nat) (listed : Array Bool) (a : Act) (w : World), unl listed ops.size ≤ fuel → MI PV I ops a0 listed a w → wpAny P md ops Q fuel listed a w
  | 0, listed, a, w, hf, h => by
    have hall : Region.ready md ops listed = [] := by
      apply List.eq_nil_iff_forall_not_mem.2
      intro i hi
      obtain ⟨h1, o, ho, _⟩ := mem_ready.1 hi
      have := unl_set (Array.getElem?_eq_some_iff.1 ho).1 h1
      omega
    exact ⟨hall, hend a w h.defers h.inv h.old (fun i o t ho hd => h.post i o t ho hd (ready_nil hok h.lsize hall i (Array.getElem?_eq_some_iff.1 ho).1))⟩
  | fuel + 1, listed, a, w, hf, h => by
    refine ⟨fun hall => hend a w h.defers h.inv h.old (fun i o t ho hd => h.post i o t ho hd (ready_nil hok h.lsize hall i (Array.getElem?_eq_some_iff.1 ho).1)), fun i hi => ?_⟩
    obtain ⟨h1, o, ho, hall⟩ := mem_ready.1 hi
    obtain ⟨⟨t, hd, _⟩, hg, _, _⟩ := monoB_spec hok ho
    refine wpOp_step ho fun K' hK => ?_
    have hw : Region.wanted o (yielded ops a.tmps) = true := by unfold Region.wanted; rw [hg]
    rw [if_pos hw]
    refine hstep i o ho a w h.inv h.old (fun e he hb oe s hoe hs => h.post e.on oe s hoe hs (hall e he hb)) K' (fun v w' s hs hbel hv => hK _ _ ?_)
    have hlt := (Array.getElem?_eq_some_iff.1 ho).1
    have hu := unl_set hlt h1
    rw [hs]
    exact wpAny_mono_ hok hI hPV hstep hend fuel _ _ _ (by omega) (h.more hok hI hPV ho hs hbel hv)
theorem wp_region_mono {id : Nat} {w : World} (hm : P.follows .mixedOrders = true) (PV : Nat → Value → World → Prop) (I : World → Prop) (hok : Region.monoB ops a0.tmps.size = true) (hI : ∀ w w', I w → Below w.heap.size w w' → I w') (hPV : ∀ t v w w', PV t v w → Below w.heap.size w w' → PV t v w') (h0 : I { w with drawn := w.drawn + 1 })
    (hstep : ∀ (i : Nat) o, ops[i]? = some o → ∀ (a : Act) (w : World), I w → (∀ t, Outside ops t → a.tmps.getD t undef = a0.tmps.getD t undef) → (∀ e ∈ o.after, Region.binds .any e = true → ∀ oe t, ops[e.on]? = some oe → oe.dst = some t → PV t (a.tmps.getD t undef) w) →
      ∀ K : Act → World → Prop, (∀ v w' t, o.dst = some t → Below w.heap.size w w' → PV t v w' → K (a.put o.dst v) w') → Oper.wp P o a w K Q)
    (hend : ∀ (a : Act) (w : World), a.defers = a0.defers → I w → (∀ t, Outside ops t → a.tmps.getD t undef = a0.tmps.getD t undef) → (∀ (i : Nat) o t, ops[i]? = some o → o.dst = some t → PV t (a.tmps.getD t undef) w) → Q .normal a w) :
    (Code.region id ops true).wp P Q a0 w := by
  refine wp_region_any hm (wpAny_mono_ hok hI hPV hstep hend ops.size _ _ _ ?_ ⟨rfl, rfl, by simp, fun _ _ => rfl, h0, fun i o t ho _ hl => ?_⟩)
  · unfold unl
    exact Nat.le_trans (List.length_filter_le _ _) (by simp)
  · rw [Array.getD_eq_getD_getElem?, Array.getElem?_replicate] at hl
    split at hl <;> simp at hl
end
end Go.Last
