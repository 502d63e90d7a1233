/-
  A region that draws its order, by an invariant: whatever order the edges allow, what holds of the operations that have come up goes on holding.
-/
import Derived.Test.Qxb6601175aFirst
import Derived.Orders
namespace Go.Proofs.Qxb6601175a.Idx
open Go.RowKit

/-- how many of the first n operations have not come up -/
def unl (listed : Array Bool) : Nat → Nat
  | 0 => 0
  | n + 1 => unl listed n + (if listed.getD n true = false then 1 else 0)

theorem unl_zero {listed : Array Bool} : ∀ n, unl listed n = 0 → ∀ i, i < n → listed.getD i true ≠ false := by
  intro n
  induction n with
  | zero => intro _ i hi; omega
  | succ n ih =>
    intro h i hi
    simp only [unl] at h
    by_cases e : i = n
    · subst e
      intro hc
      rw [if_pos hc] at h
      omega
    · exact ih (by omega) i (by omega)

theorem unl_same {listed : Array Bool} {i : Nat} : ∀ n, n ≤ i → unl (listed.setIfInBounds i true) n = unl listed n := by
  intro n
  induction n with
  | zero => intro _; rfl
  | succ n ih =>
    intro hn
    simp only [unl]
    rw [ih (by omega), getD_set_ne true (by omega)]

theorem unl_set {listed : Array Bool} {i : Nat} (h : listed.getD i true = false) : ∀ n, i < n → unl (listed.setIfInBounds i true) n + 1 = unl listed n := by
  have hlt : i < listed.size := by
    rcases Nat.lt_or_ge i listed.size with h' | h'
    · exact h'
    · simp [Array.getElem?_eq_none h'] at h
  intro n
  induction n with
  | zero => intro hi; omega
  | succ n ih =>
    intro hi
    simp only [unl]
    by_cases e : i = n
    · subst e
      rw [unl_same i (Nat.le_refl _), if_pos h]
      simp [hlt]
    · rw [getD_set_ne true e]
      have := ih (by omega)
      omega

theorem wpAny_inv {P : Program} {md : Region.Mode} {ops : Array Oper} {Q : Exit → Act → World → Prop} (J : Array Bool → Act → World → Prop)
    (step : ∀ listed a w i o, J listed a w → ops[i]? = some o → listed.getD i true = false → (∀ e ∈ o.after, Region.binds md e = true → listed.getD e.on false = true) → Region.wanted o (yielded ops a.tmps) = true ∧ o.wp P a w (J (listed.setIfInBounds i true)) Q)
    (fin : ∀ listed a w, J listed a w → Region.ready md ops listed = [] → listed.size = ops.size → Q .normal a w) :
    ∀ fuel listed a w, unl listed ops.size ≤ fuel → listed.size = ops.size → J listed a w → wpAny P md ops Q fuel listed a w := by
  intro fuel
  induction fuel with
  | zero =>
    intro listed a w hf hs hJ
    have hr : Region.ready md ops listed = [] := by
      rw [List.eq_nil_iff_forall_not_mem]
      intro i hi
      obtain ⟨h0, o, ho, _⟩ := mem_ready.1 hi
      exact unl_zero ops.size (by omega) i (Array.getElem?_eq_some_iff.1 ho).1 h0
    exact ⟨hr, fin listed a w hJ hr hs⟩
  | succ fuel ih =>
    intro listed a w hf hs hJ
    refine ⟨fun hr => fin listed a w hJ hr hs, fun i hi => ?_⟩
    obtain ⟨h0, o, ho, hall⟩ := mem_ready.1 hi
    obtain ⟨hw, hwp⟩ := step listed a w i o hJ ho h0 hall
    unfold wpOp
    simp only [ho, hw, if_true]
    refine .inl (Oper.wp_mono (fun a' w' hJ' => ih _ a' w' ?_ (by simpa using hs) hJ') hwp)
    have := unl_set h0 ops.size (Array.getElem?_eq_some_iff.1 ho).1
    omega

theorem unl_le (listed : Array Bool) : ∀ n, unl listed n ≤ n := by
  intro n
  induction n with
  | zero => exact Nat.le_refl _
  | succ n ih => simp only [unl]; split <;> omega

/-- each operation waits for earlier ones alone -/
def acyc (ops : Array Oper) : Bool := (List.range ops.size).all fun i => ((ops[i]?).map fun o => o.after.all fun e => decide (e.on < i)).getD true

/-- so where none is ready, all have come up -/
theorem all_up {md : Region.Mode} {ops : Array Oper} {listed : Array Bool} (hac : acyc ops = true) (hr : Region.ready md ops listed = []) (hs : listed.size = ops.size) : ∀ i, i < ops.size → listed.getD i false = true := by
  have hac' : ∀ (i : Nat) (o : Oper), ops[i]? = some o → ∀ e ∈ o.after, e.on < i := fun i o ho e he => by
    have h1 := List.all_eq_true.1 hac i (List.mem_range.2 (Array.getElem?_eq_some_iff.1 ho).1)
    rw [ho] at h1
    simp only [Option.map_some, Option.getD_some] at h1
    exact of_decide_eq_true (Array.all_eq_true_iff_forall_mem.1 h1 e he)
  have hall : ∀ m i, i < m → i < ops.size → listed.getD i false = true := by
    intro m
    induction m with
    | zero => intro i hi; omega
    | succ m ih =>
      intro i hi hlt
      cases hl : listed.getD i true with
      | true =>
        have h2 : i < listed.size := by omega
        simp [h2] at hl ⊢
        exact hl
      | false =>
        have hmem : i ∈ Region.ready md ops listed := mem_ready.2 ⟨hl, ops[i], Array.getElem?_eq_getElem hlt, fun e he _ => by
          have h3 := hac' i _ (Array.getElem?_eq_getElem hlt) e he
          exact ih e.on (by omega) (by omega)⟩
        rw [hr] at hmem
        simp at hmem
  exact fun i hi => hall (i + 1) i (by omega) hi

/-- .. from the region's head on; the frame at the head is the invariant's first word -/
theorem wpAny_from {P : Program} {md : Region.Mode} {ops : Array Oper} {Q : Exit → Act → World → Prop} {a : Act} {w : World} (J : Act → Array Bool → Act → World → Prop)
    (start : J a (Array.replicate ops.size false) a w)
    (step : ∀ listed a' w i o, J a listed a' w → ops[i]? = some o → listed.getD i true = false → (∀ e ∈ o.after, Region.binds md e = true → listed.getD e.on false = true) → Region.wanted o (yielded ops a'.tmps) = true ∧ o.wp P a' w (J a (listed.setIfInBounds i true)) Q)
    (hac : acyc ops = true)
    (fin : ∀ listed a' w, J a listed a' w → (∀ i, i < ops.size → listed.getD i false = true) → Q .normal a' w) :
    wpAny P md ops Q ops.size (Array.replicate ops.size false) a w :=
  wpAny_inv (J a) step (fun listed a' w hJ hr hs => fin listed a' w hJ (all_up hac hr hs)) _ _ _ _ (unl_le _ _) (by simp) start

/-! ### frames -/
theorem eval_put_same {a : Act} {d : Nat} {v : Value} (h : d < a.tmps.size) : (a.put (some d) v).eval (.tmp d) = v := by
  simp [Act.eval, Act.put, h]
theorem eval_put_ne {a : Act} {d t : Nat} {v : Value} (h : d ≠ t) : (a.put (some d) v).eval (.tmp t) = a.eval (.tmp t) :=
  Act.eval_put fun e he hx => by
    injection he with he
    injection hx with hx
    exact h (he.trans hx.symm)
theorem size_put (a : Act) (d : Option Nat) (v : Value) : (a.put d v).tmps.size = a.tmps.size := by
  cases d <;> simp [Act.put]
theorem defers_put (a : Act) (d : Option Nat) (v : Value) : (a.put d v).defers = a.defers := by
  cases d <;> simp [Act.put]

/-- an operation that runs to a value -/
theorem wp_value {P : Program} {o : Oper} {a : Act} {w w' : World} {K : Act → World → Prop} {Q : Exit → Act → World → Prop} {v : Value}
    (h : (execOp a.eval o).run P w = .ok (.value v) w') (hK : K (a.put o.dst v) w') : o.wp P a w K Q := by
  unfold Oper.wp; rw [h]; exact hK

/-! ### the facts of a region, operation by operation -/
/-- 'Facts F dst listed a w': of each operation that has come up the slot that it writes holds what F says -/
def Facts (F : Nat → Value → World → Prop) (dst : Nat → Nat) (n : Nat) (listed : Array Bool) (a : Act) (w : World) : Prop :=
  ∀ i, i < n → listed.getD i false = true → F i (a.eval (.tmp (dst i))) w

theorem Facts.put {F : Nat → Value → World → Prop} {dst : Nat → Nat} {n : Nat} {listed : Array Bool} {a : Act} {w w' : World} (h : Facts F dst n listed a w) (i : Nat) (v : Value)
    (hd : ∀ j, j < n → j ≠ i → dst j ≠ dst i) (hi : dst i < a.tmps.size) (hn : listed.getD i true = false) (hF : F i v w') (hst : ∀ j x, F j x w → F j x w') :
    Facts F dst n (listed.setIfInBounds i true) (a.put (some (dst i)) v) w' := by
  intro j hj hl
  by_cases e : j = i
  · subst e
    rw [eval_put_same hi]; exact hF
  · rw [eval_put_ne (Ne.symm (hd j hj e))]
    rw [getD_set_ne false (Ne.symm e)] at hl
    exact hst j _ (h j hj hl)

/-- a frame is its slots -/
theorem act_ext {a : Act} {t : Array Value} (hd : a.defers = []) (hs : a.tmps.size = t.size) (h : ∀ i, i < t.size → a.eval (.tmp i) = t.getD i undef) : a = { tmps := t, defers := [] } := by
  obtain ⟨ts, ds⟩ := a
  simp only at hd hs
  subst hd
  congr 1
  refine Array.ext hs fun i h1 h2 => ?_
  have e := h i h2
  simp only [Act.eval] at e
  rw [Array.getD_eq_getD_getElem?, Array.getD_eq_getD_getElem?, Array.getElem?_eq_getElem h1, Array.getElem?_eq_getElem h2] at e
  simpa using e
end Go.Proofs.Qxb6601175a.Idx
