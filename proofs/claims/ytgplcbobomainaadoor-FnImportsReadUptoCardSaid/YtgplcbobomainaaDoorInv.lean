/-
  A region in any order, by an invariant: what each operation leaves stays.
-/
import Derived.Orders
import Derived.Below
import Derived.Laws.OwnMore
import Derived.Laws.Append
import Derived.Laws.Rows
import Derived.WideShapes
import Derived.Maps.AppendAt
namespace Go.Proofs.YtgplcbobomainaaDoor
open Go.RowKit
set_option linter.unusedVariables false
set_option linter.unusedSimpArgs false

section
variable {P : Program} {ops : Array Oper} {Q : Exit → Act → World → Prop} {md : Region.Mode}

theorem filter_less (p : Nat → Bool) (i : Nat) : ∀ l : List Nat, l.Nodup → i ∈ l → p i = true →
    (l.filter p).length = (l.filter fun j => p j && !decide (j = i)).length + 1
  | [], _, h, _ => by cases h
  | x :: r, hn, h, hp => by
    have hx := (List.nodup_cons.1 hn).1
    have hr := (List.nodup_cons.1 hn).2
    by_cases hxi : x = i
    · subst hxi
      have e : (r.filter fun j => p j && !decide (j = x)) = r.filter p := by
        apply List.filter_congr
        intro j hj
        have : j ≠ x := fun e => hx (e ▸ hj)
        simp [this]
      simp [List.filter_cons, hp, e]
    · have hm : i ∈ r := by
        rcases List.mem_cons.1 h with h | h
        · exact absurd h.symm hxi
        · exact h
      have := filter_less p i r hr hm hp
      cases hpx : p x <;> simp [List.filter_cons, hpx, hxi, this]

theorem wpAny_inv (Inv : (Nat → Bool) → Act → World → Prop)
    (hord : ∀ (i : Nat) (o : Oper), ops[i]? = some o → ∀ e ∈ o.after, e.on < i)
    (hstep : ∀ (D : Nat → Bool) (a : Act) (w : World) (i : Nat) (o : Oper), ops[i]? = some o → D i = false → (∀ e ∈ o.after, Region.binds md e = true → D e.on = true) → Inv D a w → wpOp P ops Q i (Inv fun j => D j || decide (j = i)) a w)
    (hdone : ∀ (D : Nat → Bool) (a : Act) (w : World), (∀ j, j < ops.size → D j = true) → Inv D a w → Q .normal a w) :
    ∀ (fuel : Nat) (listed : Array Bool) (a : Act) (w : World), listed.size = ops.size → ((List.range ops.size).filter fun j => !listed.getD j false).length = fuel →
      Inv (fun j => listed.getD j false) a w → wpAny P md ops Q fuel listed a w := by
  have hall : ∀ listed : Array Bool, listed.size = ops.size → Region.ready md ops listed = [] → ∀ j, j < ops.size → listed.getD j false = true := by
    intro listed hsz hr j
    induction j using Nat.strongRecOn with
    | ind j ih =>
      intro hj
      cases hl : listed.getD j false with
      | true => rfl
      | false =>
        have ho : ops[j]? = some ops[j] := Array.getElem?_eq_getElem hj
        have hm : j ∈ Region.ready md ops listed := by
          rw [mem_ready]
          refine ⟨?_, _, ho, fun e he _ => ih e.on (hord j _ ho e he) (Nat.lt_trans (hord j _ ho e he) hj)⟩
          have hlt : j < listed.size := by omega
          simp [hlt] at hl ⊢
          exact hl
        rw [hr] at hm
        cases hm
  intro fuel
  induction fuel with
  | zero =>
    intro listed a w hsz hf hI
    have hd : ∀ j, j < ops.size → listed.getD j false = true := by
      intro j hj
      cases hl : listed.getD j false with
      | true => rfl
      | false =>
        have hm : j ∈ (List.range ops.size).filter fun j => !listed.getD j false := by
          rw [List.mem_filter]; exact ⟨List.mem_range.2 hj, by simp only [hl, Bool.not_false]⟩
        rw [List.eq_nil_of_length_eq_zero hf] at hm
        cases hm
    refine ⟨?_, hdone _ a w hd hI⟩
    apply List.eq_nil_iff_forall_not_mem.2
    intro j hj
    obtain ⟨h0, o, ho, _⟩ := mem_ready.1 hj
    have hlt := (Array.getElem?_eq_some_iff.1 ho).1
    have hlt' : j < listed.size := by omega
    have := hd j hlt
    simp [hlt'] at this h0
    rw [h0] at this
    cases this
  | succ fuel ih =>
    intro listed a w hsz hf hI
    refine ⟨fun hr => hdone _ a w (hall listed hsz hr) hI, fun i hi => ?_⟩
    obtain ⟨h0, o, ho, hb⟩ := mem_ready.1 hi
    have hlt := (Array.getElem?_eq_some_iff.1 ho).1
    have hlt' : i < listed.size := by omega
    have hi0 : listed.getD i false = false := by simp [hlt'] at h0 ⊢; exact h0
    refine wpOp_mono (fun a' w' h' => ?_) (hstep _ a w i o ho hi0 hb hI)
    have eD : (fun j => (listed.setIfInBounds i true).getD j false) = fun j => listed.getD j false || decide (j = i) := by
      funext j
      by_cases hij : i = j
      · subst hij; simp [hlt']
      · rw [getD_set_ne false hij]
        have : ¬ j = i := fun e => hij e.symm
        simp [this]
    refine ih _ a' w' (by simp [hsz]) ?_ (by rw [eD]; exact h')
    have := filter_less (fun j => !listed.getD j false) i (List.range ops.size) List.nodup_range (List.mem_range.2 hlt) (by simp only [hi0, Bool.not_false])
    have e2 : (fun j => !(listed.setIfInBounds i true).getD j false) = fun j => !listed.getD j false && !decide (j = i) := by
      funext j
      rw [show (listed.setIfInBounds i true).getD j false = (listed.getD j false || decide (j = i)) from congrFun eD j, Bool.not_or]
    rw [e2]
    omega

theorem wp_region_inv (Inv : (Nat → Bool) → Act → World → Prop) {id : Nat} {a : Act} {w : World} (hm : P.follows .mixedOrders = true)
    (hord : ∀ (i : Nat) (o : Oper), ops[i]? = some o → ∀ e ∈ o.after, e.on < i)
    (hstep : ∀ (D : Nat → Bool) (a : Act) (w : World) (i : Nat) (o : Oper), ops[i]? = some o → D i = false → (∀ e ∈ o.after, Region.binds .any e = true → D e.on = true) → Inv D a w → wpOp P ops Q i (Inv fun j => D j || decide (j = i)) a w)
    (hdone : ∀ (D : Nat → Bool) (a : Act) (w : World), (∀ j, j < ops.size → D j = true) → Inv D a w → Q .normal a w)
    (h0 : Inv (fun _ => false) a { w with drawn := w.drawn + 1 }) : (Code.region id ops true).wp P Q a w := by
  refine wp_region_any hm (wpAny_inv Inv hord hstep hdone ops.size _ a _ (by simp) ?_ ?_)
  · have e : ((List.range ops.size).filter fun j => !(Array.replicate ops.size false).getD j false) = List.range ops.size := by
      apply List.filter_eq_self.2
      intro j hj
      have := List.mem_range.1 hj
      simp [this]
    rw [e, List.length_range]
  · have e : (fun j => (Array.replicate ops.size false).getD j false) = fun _ => false := by
      funext j
      by_cases h : j < ops.size <;> simp [h]
    rw [e]; exact h0

def ordOk (ops : Array Oper) : Bool := (List.range ops.size).all fun i => ((ops[i]?).map fun o => o.after.all fun e => decide (e.on < i)).getD true
theorem ordOk.out (h : ordOk ops = true) : ∀ (i : Nat) (o : Oper), ops[i]? = some o → ∀ e ∈ o.after, e.on < i := by
  intro i o ho e he
  have hlt := (Array.getElem?_eq_some_iff.1 ho).1
  have h1 := List.all_eq_true.1 h i (List.mem_range.2 hlt)
  rw [ho] at h1
  exact of_decide_eq_true (Array.all_eq_true_iff_forall_mem.1 h1 e he)

/-- An operation that ends with a value, in whatever activation holds its operands. -/
theorem step_of {i : Nat} {o : Oper} {a : Act} {w w' : World} {K : Act → World → Prop} {v : Value} (ho : ops[i]? = some o) (hg : o.guard = none)
    (hrun : ∀ ρ : Operand → Value, (∀ t u, a.tmps[t]? = some u → ρ (.tmp t) = u) → (execOp ρ o).run P w = .ok (.value v) w') (hK : K (a.put o.dst v) w') : wpOp P ops Q i K a w := by
  unfold wpOp
  simp only [ho]
  have hw : Region.wanted o (yielded ops a.tmps) = true := by simp [Region.wanted, hg]
  rw [if_pos hw]
  refine .inl ?_
  unfold Oper.wp
  rw [hrun a.eval (fun t u h => by simp [Act.eval, h])]
  exact hK

theorem run_append_op {ρ : Operand → Value} {o : Oper} {v u r : Value} {w w' : World} (s x : Operand) (t : TypeId)
    (ho : o.op = .call { callee := .builtin .append, args := #[s, x], argTypes := #[t, t] }) (e1 : ρ s = v) (e2 : ρ x = u)
    (hrun : (Builtin.append_ #[t, t] o.type #[v, u]).run P w = .ok r w') : (execOp ρ o).run P w = .ok (.value r) w' := by
  unfold execOp
  simp only [ho, resolve, invoke, builtin, Sem.run_bind, Sem.run_pure, Result.andThen_ok, List.map_toArray, List.map_cons, List.map_nil, e1, e2, hrun]

/-- append onto a slice without room leaves all that was there, and makes the new one of blocks of its own. -/
theorem append_fresh (w : World) (t ty e : TypeId) (i : TypeInfo) (z : Value) (bytes : Nat) (ht : P.underlying t = some (.slice e)) (hi : P.info? e = some i) (hz : i.zero = some z)
    (hsize : i.size = 1) (hby : i.bytes = bytes) (g : Addr) (A : Option Addr) (m c : Nat) (news : List Value) (hl : news.length = m)
    (hA : 0 < m → ∃ ad, A = some ad ∧ ∀ j u, news[j]? = some u → w.cell? (ad.add j) = some u) (h63 : m ≤ maxLen) (hbytes : m * bytes ≤ 140737488355328) :
    ∃ B c' w', (Builtin.append_ #[t, t] ty #[.slice (some g) 0 0, .slice A m c]).run P w = .ok (.slice B m c') w' ∧ Below w.heap.size w w' ∧
      (0 < m → ∃ b, B = some ⟨b, 0, none⟩ ∧ b < w'.heap.size ∧ ∀ j u, news[j]? = some u → w'.cell? ⟨b, j, none⟩ = some u) := by
  subst hby
  have hu1 : i.size = 1 := hsize
  by_cases hm : m = 0
  · subst hm
    refine ⟨some g, 0, w, ?_, Below.refl _ _, fun h => absurd h (by omega)⟩
    rcases A with _ | ad
    · simp [Builtin.append_, run_underlying ht, sizeOf, typeInfo, hi, Builtin.lenOf, Builtin.firstCells, storeCells]
    · simp [Builtin.append_, run_underlying ht, sizeOf, typeInfo, hi, Builtin.lenOf, Builtin.firstCells, storeCells, loadCells, loadCellsFrom]
  · obtain ⟨ad, rfl, hc⟩ := hA (by omega)
    unfold maxLen at h63
    have hr := run_append_grow (P := P) w t ty e i z ht hi hz g 0 0 [] (by simp) (by simp) ad m c news (by rw [hl, hu1]; omega) hc (by omega) (by omega) (growslice_fits (by omega) (by simpa using hbytes))
    simp only [Nat.zero_add, List.nil_append] at hr
    refine ⟨_, _, _, hr, ((Below.refl _ _).drew).alloc (by simp) _, fun _ => ⟨_, rfl, by simp, fun j u hu => ?_⟩⟩
    have e1 : (w.drew.alloc (.cells (([] : List Value).toArray ++ news.toArray ++ Builtin.zeroCells z.cells (grownCap w m 0 e - m)) e)).heap[w.heap.size]? = some (.cells (([] : List Value).toArray ++ news.toArray ++ Builtin.zeroCells z.cells (grownCap w m 0 e - m)) e (0, 0)) := heap_alloc_new w.drew _
    rw [cell_of_row _ _ j _ e (0, 0) e1]
    have hj := (List.getElem?_eq_some_iff.1 hu).1
    simp only [List.nil_append, Array.empty_append, Array.append_assoc]
    rw [Array.getElem?_append_left (by simpa using hj)]
    simpa using hu
end

end Go.Proofs.YtgplcbobomainaaDoor
