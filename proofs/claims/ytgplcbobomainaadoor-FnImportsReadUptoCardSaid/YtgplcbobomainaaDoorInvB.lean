/-
  A region in any order, by an invariant; edges that bind alone.
-/
import Derived.Test.YtgplcbobomainaaDoorInv
namespace Go.Proofs.YtgplcbobomainaaDoor
open Go.RowKit
set_option linter.unusedVariables false
set_option linter.unusedSimpArgs false

section
variable {P : Program} {ops : Array Oper} {Q : Exit → Act → World → Prop} {md : Region.Mode}
theorem step_call2 {i : Nat} {o : Oper} {a : Act} {w : World} {K : Act → World → Prop} {f : FuncId} {args : Array Value} {R : Value → World → Prop} (ho : ops[i]? = some o) (hg : o.guard = none)
    (hrun : (∀ t u, a.tmps[t]? = some u → a.eval (.tmp t) = u) → (execOp a.eval o).run P w = .ok (.enter f args) w)
    (hc : Calls P f args w fun e w' => ∃ v, e = .returned v ∧ R v w') (hK : ∀ v w', R v w' → K (a.put o.dst v) w') : wpOp P ops Q i K a w := by
  unfold wpOp
  simp only [ho]
  have hw : Region.wanted o (yielded ops a.tmps) = true := by simp [Region.wanted, hg]
  rw [if_pos hw]
  refine .inl ?_
  unfold Oper.wp
  rw [hrun (fun t u h => by simp [Act.eval, h]), Oper.upon_enter]
  refine hc.mono ?_
  rintro e w' ⟨v, rfl, hR⟩
  exact hK v w' hR
theorem run_call_fn {o : Oper} {a : Act} {w : World} {f : FuncId} {fn : Func} {xs : Array Operand} {ts : Array TypeId} {args : Array Value} (ho : o.op = .call { callee := .value (.func f), args := xs, argTypes := ts })
    (hf : P.funcs[f]? = some fn) (hb : fn.body.isNone = false) (hn : (fn.name == "runtime.NumGoroutine") = false) (hx : xs.map a.eval = args) : (execOp a.eval o).run P w = .ok (.enter f args) w := by
  subst hx
  have hb' : ¬ fn.body = none := by rw [← Option.isNone_iff_eq_none, hb]; simp
  have hn' : ¬ fn.name = "runtime.NumGoroutine" := by intro e; rw [e] at hn; simp at hn
  unfold execOp
  simp [ho, resolve, invoke, Deferred.ofValue, callFunc, Act.eval, hf, hb', hn', go_sem]

theorem wpAny_inv2 (Inv : (Nat → Bool) → Act → World → Prop)
    (hord : ∀ (i : Nat) (o : Oper), ops[i]? = some o → ∀ e ∈ o.after, Region.binds md e = true → e.on < i)
    (hstep : ∀ (D : Nat → Bool) (a : Act) (w : World) (i : Nat) (o : Oper), ops[i]? = some o → D i = false → (∀ e ∈ o.after, Region.binds md e = true → D e.on = true) → Inv D a w → wpOp P ops Q i (Inv fun j => D j || decide (j = i)) a w)
    (hdone : ∀ (D : Nat → Bool) (a : Act) (w : World), (∀ j, j < ops.size → D j = true) → Inv D a w → Q .normal a w) :
    ∀ (fuel : Nat) (listed : Array Bool) (a : Act) (w : World), listed.size = ops.size → ((List.range ops.size).filter fun j => !listed.getD j false).length = fuel →
      Inv (fun j => listed.getD j false) a w → wpAny P md ops Q fuel listed a w := by
  have hall : ∀ listed : Array Bool, listed.size = ops.size → Region.ready md ops listed = [] → ∀ j, j < ops.size → listed.getD j false = true := by
    intro listed hsz hr j
    induction j using Nat.strongRecOn with
    | ind j ih =>
      intro hj
      cases hl : listed.getD j false with
      | true => rfl
      | false =>
        have ho : ops[j]? = some ops[j] := Array.getElem?_eq_getElem hj
        have hm : j ∈ Region.ready md ops listed := by
          rw [mem_ready]
          refine ⟨?_, _, ho, fun e he hb => ih e.on (hord j _ ho e he hb) (Nat.lt_trans (hord j _ ho e he hb) hj)⟩
          have hlt : j < listed.size := by omega
          simp [hlt] at hl ⊢
          exact hl
        rw [hr] at hm
        cases hm
  intro fuel
  induction fuel with
  | zero =>
    intro listed a w hsz hf hI
    have hd : ∀ j, j < ops.size → listed.getD j false = true := by
      intro j hj
      cases hl : listed.getD j false with
      | true => rfl
      | false =>
        have hm : j ∈ (List.range ops.size).filter fun j => !listed.getD j false := by
          rw [List.mem_filter]; exact ⟨List.mem_range.2 hj, by simp only [hl, Bool.not_false]⟩
        rw [List.eq_nil_of_length_eq_zero hf] at hm
        cases hm
    refine ⟨?_, hdone _ a w hd hI⟩
    apply List.eq_nil_iff_forall_not_mem.2
    intro j hj
    obtain ⟨h0, o, ho, _⟩ := mem_ready.1 hj
    have hlt := (Array.getElem?_eq_some_iff.1 ho).1
    have hlt' : j < listed.size := by omega
    have := hd j hlt
    simp [hlt'] at this h0
    rw [h0] at this
    cases this
  | succ fuel ih =>
    intro listed a w hsz hf hI
    refine ⟨fun hr => hdone _ a w (hall listed hsz hr) hI, fun i hi => ?_⟩
    obtain ⟨h0, o, ho, hb⟩ := mem_ready.1 hi
    have hlt := (Array.getElem?_eq_some_iff.1 ho).1
    have hlt' : i < listed.size := by omega
    have hi0 : listed.getD i false = false := by simp [hlt'] at h0 ⊢; exact h0
    refine wpOp_mono (fun a' w' h' => ?_) (hstep _ a w i o ho hi0 hb hI)
    have eD : (fun j => (listed.setIfInBounds i true).getD j false) = fun j => listed.getD j false || decide (j = i) := by
      funext j
      by_cases hij : i = j
      · subst hij; simp [hlt']
      · rw [getD_set_ne false hij]
        have : ¬ j = i := fun e => hij e.symm
        simp [this]
    refine ih _ a' w' (by simp [hsz]) ?_ (by rw [eD]; exact h')
    have := filter_less (fun j => !listed.getD j false) i (List.range ops.size) List.nodup_range (List.mem_range.2 hlt) (by simp only [hi0, Bool.not_false])
    have e2 : (fun j => !(listed.setIfInBounds i true).getD j false) = fun j => !listed.getD j false && !decide (j = i) := by
      funext j
      rw [show (listed.setIfInBounds i true).getD j false = (listed.getD j false || decide (j = i)) from congrFun eD j, Bool.not_or]
    rw [e2]
    omega

theorem wp_region_inv2 (Inv : (Nat → Bool) → Act → World → Prop) {id : Nat} {a : Act} {w : World} (hm : P.follows .mixedOrders = true)
    (hord : ∀ (i : Nat) (o : Oper), ops[i]? = some o → ∀ e ∈ o.after, Region.binds .any e = true → e.on < i)
    (hstep : ∀ (D : Nat → Bool) (a : Act) (w : World) (i : Nat) (o : Oper), ops[i]? = some o → D i = false → (∀ e ∈ o.after, Region.binds .any e = true → D e.on = true) → Inv D a w → wpOp P ops Q i (Inv fun j => D j || decide (j = i)) a w)
    (hdone : ∀ (D : Nat → Bool) (a : Act) (w : World), (∀ j, j < ops.size → D j = true) → Inv D a w → Q .normal a w)
    (h0 : Inv (fun _ => false) a { w with drawn := w.drawn + 1 }) : (Code.region id ops true).wp P Q a w := by
  refine wp_region_any hm (wpAny_inv2 Inv hord hstep hdone ops.size _ a _ (by simp) ?_ ?_)
  · have e : ((List.range ops.size).filter fun j => !(Array.replicate ops.size false).getD j false) = List.range ops.size := by
      apply List.filter_eq_self.2
      intro j hj
      have := List.mem_range.1 hj
      simp [this]
    rw [e, List.length_range]
  · have e : (fun j => (Array.replicate ops.size false).getD j false) = fun _ => false := by
      funext j
      by_cases h : j < ops.size <;> simp [h]
    rw [e]; exact h0
end

def ordOk2 (ops : Array Oper) : Bool := (List.range ops.size).all fun i => ((ops[i]?).map fun o => o.after.all fun e => !(Region.binds .any e) || decide (e.on < i)).getD true
theorem ordOk2.out {ops : Array Oper} (h : ordOk2 ops = true) : ∀ (i : Nat) (o : Oper), ops[i]? = some o → ∀ e ∈ o.after, Region.binds .any e = true → e.on < i := by
  intro i o ho e he hb
  have hlt := (Array.getElem?_eq_some_iff.1 ho).1
  have h1 := List.all_eq_true.1 h i (List.mem_range.2 hlt)
  rw [ho] at h1
  have h2 := Array.all_eq_true_iff_forall_mem.1 h1 e he
  rw [hb] at h2
  exact of_decide_eq_true h2

theorem wp_region_inv0 {P : Program} {ops : Array Oper} {Q : Exit → Act → World → Prop} (Inv : Array Value → (Nat → Bool) → Act → World → Prop) {id : Nat} {a : Act} {w : World} (hm : P.follows .mixedOrders = true)
    (hord : ∀ (i : Nat) (o : Oper), ops[i]? = some o → ∀ e ∈ o.after, Region.binds .any e = true → e.on < i)
    (hstep : ∀ (D : Nat → Bool) (b : Act) (w : World) (i : Nat) (o : Oper), ops[i]? = some o → D i = false → (∀ e ∈ o.after, Region.binds .any e = true → D e.on = true) → Inv a.tmps D b w → wpOp P ops Q i (Inv a.tmps fun j => D j || decide (j = i)) b w)
    (hdone : ∀ (D : Nat → Bool) (b : Act) (w : World), (∀ j, j < ops.size → D j = true) → Inv a.tmps D b w → Q .normal b w)
    (h0 : Inv a.tmps (fun _ => false) a { w with drawn := w.drawn + 1 }) : (Code.region id ops true).wp P Q a w := wp_region_inv2 (Inv a.tmps) hm hord hstep hdone h0

/-- An array with these places set. -/
def setsA (l : List (Nat × Value)) (t : Array Value) : Array Value := l.foldl (fun t p => t.setIfInBounds p.1 p.2) t
theorem setsA_size (l : List (Nat × Value)) : ∀ t, (setsA l t).size = t.size := by
  induction l with
  | nil => intro t; rfl
  | cons p r ih => intro t; show (setsA r (t.setIfInBounds p.1 p.2)).size = _; rw [ih]; simp
theorem setsA_get (x : Nat → Value) : ∀ (ks : List Nat) (t : Array Value) (j : Nat), j < t.size → (setsA (ks.map fun k => (k, x k)) t)[j]? = if j ∈ ks then some (x j) else t[j]?
  | [], t, j, _ => by simp [setsA]
  | k :: r, t, j, h => by
    show (setsA (r.map fun k => (k, x k)) (t.setIfInBounds k (x k)))[j]? = _
    rw [setsA_get x r _ j (by simpa using h)]
    by_cases hj : j ∈ r
    · simp [hj]
    · by_cases hk : j = k
      · subst hk; simp [hj, h]
      · rw [if_neg hj, if_neg (by simp [hj, hk]), Array.getElem?_setIfInBounds_ne (fun e => hk e.symm)]
theorem setsA_eq {ks : List Nat} {x : Nat → Value} {t u : Array Value} (hs : t.size = u.size) (h1 : ∀ j ∈ ks, t[j]? = some (x j)) (h2 : ∀ j, j ∉ ks → t[j]? = u[j]?) : t = setsA (ks.map fun k => (k, x k)) u := by
  apply Array.ext
  · rw [setsA_size, hs]
  · intro j hj hj'
    have e := setsA_get x ks u j (by omega)
    rw [Array.getElem?_eq_getElem hj'] at e
    by_cases hm : j ∈ ks
    · rw [if_pos hm] at e
      have := h1 j hm
      rw [Array.getElem?_eq_getElem hj] at this
      exact Option.some.inj (this.trans e.symm)
    · rw [if_neg hm] at e
      have := h2 j hm
      rw [Array.getElem?_eq_getElem hj] at this
      exact Option.some.inj (this.trans e.symm)


theorem run_store_op {P : Program} {o : Oper} {ρ : Operand → Value} {w w' : World} {x y : Operand} {t : TypeId} {va vx : Value} (ho : o.op = .store t x y) (ea : ρ x = va) (ex : ρ y = vx) (hrun : (Instr.storeAt t va vx).run P w = .ok () w') : (execOp ρ o).run P w = .ok .skip w' := by
  unfold execOp
  simp only [ho, ea, ex, Sem.run_bind, hrun, Result.andThen_ok, Sem.run_pure]
/-- An operation that leaves no value. -/
theorem step_skip {P : Program} {ops : Array Oper} {Q : Exit → Act → World → Prop} {i : Nat} {o : Oper} {a : Act} {w w' : World} {K : Act → World → Prop} (ho : ops[i]? = some o) (hg : o.guard = none)
    (hrun : ∀ ρ : Operand → Value, (∀ t u, a.tmps[t]? = some u → ρ (.tmp t) = u) → (execOp ρ o).run P w = .ok .skip w') (hK : K (a.put o.dst undef) w') : wpOp P ops Q i K a w := by
  unfold wpOp
  simp only [ho]
  have hw : Region.wanted o (yielded ops a.tmps) = true := by simp [Region.wanted, hg]
  rw [if_pos hw]
  refine .inl ?_
  unfold Oper.wp
  rw [hrun a.eval (fun t u h => by simp [Act.eval, h]), Oper.upon_skip]
  exact hK

end Go.Proofs.YtgplcbobomainaaDoor
