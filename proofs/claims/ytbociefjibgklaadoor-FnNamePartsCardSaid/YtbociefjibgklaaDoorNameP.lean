/-
  The law FnNameParts.
-/
import Derived.Test.YtbociefjibgklaaDoorNameR
import Derived.Test.YtbociefjibgklaaDoorTagMore
namespace Go.Proofs.YtbociefjibgklaaDoor
open Go.RowKit
set_option linter.unusedVariables false
set_option linter.unusedSimpArgs false

/-- What operation k of the region leaves. -/
def Left5 (O R : ByteArray) (i j : Nat) (sys mac : Int) (k : Nat) (v : Value) (w : World) : Prop :=
  match k with
  | 0 => KeysAt osKeys 18 v w
  | 1 => v = .int .i64 sys
  | 2 => KeysAt osKeys 18 v w
  | 3 => v = .int .i64 18
  | 4 => v = .int .i64 i
  | 5 => ∃ g, v = .pointer (some ⟨g, i, none⟩) ∧ g < w.heap.size ∧ w.cell? ⟨g, i, none⟩ = some (.string O)
  | 6 => v = .string O
  | 7 => KeysAt arKeys 24 v w
  | 8 => v = .int .i64 mac
  | 9 => KeysAt arKeys 24 v w
  | 10 => v = .int .i64 24
  | 11 => v = .int .i64 j
  | 12 => ∃ g, v = .pointer (some ⟨g, j, none⟩) ∧ g < w.heap.size ∧ w.cell? ⟨g, j, none⟩ = some (.string R)
  | 13 => v = .string R
  | 14 => v = .string O
  | 15 => v = .string R
  | _ => True
theorem Left5.below {O R : ByteArray} {i j : Nat} {sys mac : Int} {k : Nat} {v : Value} {w w' : World} (h : Left5 O R i j sys mac k v w) (hb : Below w.heap.size w w') : Left5 O R i j sys mac k v w' := by
  unfold Left5 at *
  split at h <;> first
    | exact h
    | exact h.below hb
    | (obtain ⟨g, e, hg, hc⟩ := h; exact ⟨g, e, Nat.lt_of_lt_of_le hg hb.size, (hb.cell (p := ⟨g, _, none⟩) hg).trans hc⟩)

def slot5 (k : Nat) : Nat := if k = 14 then 11 else if k = 15 then 12 else k + 30
def slots5 : List Nat := [30, 31, 32, 33, 34, 35, 36, 37, 38, 39, 40, 41, 42, 43, 11, 12]
theorem slot5_mem {k : Nat} (h : k < 16) : slot5 k ∈ slots5 := by
  obtain rfl | rfl | rfl | rfl | rfl | rfl | rfl | rfl | rfl | rfl | rfl | rfl | rfl | rfl | rfl | rfl : k = 0 ∨ k = 1 ∨ k = 2 ∨ k = 3 ∨ k = 4 ∨ k = 5 ∨ k = 6 ∨ k = 7 ∨ k = 8 ∨ k = 9 ∨ k = 10 ∨ k = 11 ∨ k = 12 ∨ k = 13 ∨ k = 14 ∨ k = 15 := by omega
  all_goals decide

structure PInv (O R : ByteArray) (i j : Nat) (sys mac : Int) (t0 : Array Value) (w0 : World) (D : Nat → Bool) (a : Act) (w : World) : Prop where
  size : a.tmps.size = 86
  defers : a.defers = []
  old : ∀ s, s ∉ slots5 → a.tmps[s]? = t0[s]?
  below : Below w0.heap.size w0 w
  left : ∀ k, k < 16 → D k = true → ∃ v, a.tmps[slot5 k]? = some v ∧ Left5 O R i j sys mac k v w

theorem PInv.put {O R : ByteArray} {i j : Nat} {sys mac : Int} {t0 : Array Value} {w0 w w' : World} {D : Nat → Bool} {a : Act} {k : Nat} {v : Value} (h : PInv O R i j sys mac t0 w0 D a w) (hk : k < 16) (hb : Below w.heap.size w w') (hv : Left5 O R i j sys mac k v w') :
    PInv O R i j sys mac t0 w0 (fun m => D m || decide (m = k)) (a.put (some (slot5 k)) v) w' := by
  have hs : slot5 k < 86 := by unfold slot5; split <;> (try split) <;> omega
  refine ⟨by simp [Act.put, h.size], h.defers, fun s hn => ?_, h.below.trans (hb.mono h.below.size), fun m hm hD => ?_⟩
  · have : slot5 k ≠ s := fun e => hn (e ▸ slot5_mem hk)
    simp only [Act.put]
    rw [Array.getElem?_setIfInBounds_ne this]
    exact h.old s hn
  · by_cases hmk : m = k
    · subst hmk
      exact ⟨v, by simp [Act.put, h.size, hs], hv⟩
    · have hD' : D m = true := by simpa [hmk] using hD
      obtain ⟨u, hu, hl⟩ := h.left m hm hD'
      have hne : slot5 k ≠ slot5 m := by
        unfold slot5
        repeat' split
        all_goals omega
      refine ⟨u, ?_, hl.below hb⟩
      simp only [Act.put]
      rw [Array.getElem?_setIfInBounds_ne hne]
      exact hu


section
variable {P : Program} {ops : Array Oper} {Q : Exit → Act → World → Prop} {md : Region.Mode}
theorem step_call2 {i : Nat} {o : Oper} {a : Act} {w : World} {K : Act → World → Prop} {f : FuncId} {args : Array Value} {R : Value → World → Prop} (ho : ops[i]? = some o) (hg : o.guard = none)
    (hrun : (∀ t u, a.tmps[t]? = some u → a.eval (.tmp t) = u) → (execOp a.eval o).run P w = .ok (.enter f args) w)
    (hc : Calls P f args w fun e w' => ∃ v, e = .returned v ∧ R v w') (hK : ∀ v w', R v w' → K (a.put o.dst v) w') : wpOp P ops Q i K a w := by
  unfold wpOp
  simp only [ho]
  have hw : Region.wanted o (yielded ops a.tmps) = true := by simp [Region.wanted, hg]
  rw [if_pos hw]
  refine .inl ?_
  unfold Oper.wp
  rw [hrun (fun t u h => by simp [Act.eval, h]), Oper.upon_enter]
  refine hc.mono ?_
  rintro e w' ⟨v, rfl, hR⟩
  exact hK v w' hR
theorem run_call_fn {o : Oper} {a : Act} {w : World} {f : FuncId} {fn : Func} {xs : Array Operand} {ts : Array TypeId} {args : Array Value} (ho : o.op = .call { callee := .value (.func f), args := xs, argTypes := ts })
    (hf : P.funcs[f]? = some fn) (hb : fn.body.isNone = false) (hn : (fn.name == "runtime.NumGoroutine") = false) (hx : xs.map a.eval = args) : (execOp a.eval o).run P w = .ok (.enter f args) w := by
  subst hx
  have hb' : ¬ fn.body = none := by rw [← Option.isNone_iff_eq_none, hb]; simp
  have hn' : ¬ fn.name = "runtime.NumGoroutine" := by intro e; rw [e] at hn; simp at hn
  unfold execOp
  simp [ho, resolve, invoke, Deferred.ofValue, callFunc, Act.eval, hf, hb', hn', go_sem]

theorem wpAny_inv2 (Inv : (Nat → Bool) → Act → World → Prop)
    (hord : ∀ (i : Nat) (o : Oper), ops[i]? = some o → ∀ e ∈ o.after, Region.binds md e = true → e.on < i)
    (hstep : ∀ (D : Nat → Bool) (a : Act) (w : World) (i : Nat) (o : Oper), ops[i]? = some o → D i = false → (∀ e ∈ o.after, Region.binds md e = true → D e.on = true) → Inv D a w → wpOp P ops Q i (Inv fun j => D j || decide (j = i)) a w)
    (hdone : ∀ (D : Nat → Bool) (a : Act) (w : World), (∀ j, j < ops.size → D j = true) → Inv D a w → Q .normal a w) :
    ∀ (fuel : Nat) (listed : Array Bool) (a : Act) (w : World), listed.size = ops.size → ((List.range ops.size).filter fun j => !listed.getD j false).length = fuel →
      Inv (fun j => listed.getD j false) a w → wpAny P md ops Q fuel listed a w := by
  have hall : ∀ listed : Array Bool, listed.size = ops.size → Region.ready md ops listed = [] → ∀ j, j < ops.size → listed.getD j false = true := by
    intro listed hsz hr j
    induction j using Nat.strongRecOn with
    | ind j ih =>
      intro hj
      cases hl : listed.getD j false with
      | true => rfl
      | false =>
        have ho : ops[j]? = some ops[j] := Array.getElem?_eq_getElem hj
        have hm : j ∈ Region.ready md ops listed := by
          rw [mem_ready]
          refine ⟨?_, _, ho, fun e he hb => ih e.on (hord j _ ho e he hb) (Nat.lt_trans (hord j _ ho e he hb) hj)⟩
          have hlt : j < listed.size := by omega
          simp [hlt] at hl ⊢
          exact hl
        rw [hr] at hm
        cases hm
  intro fuel
  induction fuel with
  | zero =>
    intro listed a w hsz hf hI
    have hd : ∀ j, j < ops.size → listed.getD j false = true := by
      intro j hj
      cases hl : listed.getD j false with
      | true => rfl
      | false =>
        have hm : j ∈ (List.range ops.size).filter fun j => !listed.getD j false := by
          rw [List.mem_filter]; exact ⟨List.mem_range.2 hj, by simp only [hl, Bool.not_false]⟩
        rw [List.eq_nil_of_length_eq_zero hf] at hm
        cases hm
    refine ⟨?_, hdone _ a w hd hI⟩
    apply List.eq_nil_iff_forall_not_mem.2
    intro j hj
    obtain ⟨h0, o, ho, _⟩ := mem_ready.1 hj
    have hlt := (Array.getElem?_eq_some_iff.1 ho).1
    have hlt' : j < listed.size := by omega
    have := hd j hlt
    simp [hlt'] at this h0
    rw [h0] at this
    cases this
  | succ fuel ih =>
    intro listed a w hsz hf hI
    refine ⟨fun hr => hdone _ a w (hall listed hsz hr) hI, fun i hi => ?_⟩
    obtain ⟨h0, o, ho, hb⟩ := mem_ready.1 hi
    have hlt := (Array.getElem?_eq_some_iff.1 ho).1
    have hlt' : i < listed.size := by omega
    have hi0 : listed.getD i false = false := by simp [hlt'] at h0 ⊢; exact h0
    refine wpOp_mono (fun a' w' h' => ?_) (hstep _ a w i o ho hi0 hb hI)
    have eD : (fun j => (listed.setIfInBounds i true).getD j false) = fun j => listed.getD j false || decide (j = i) := by
      funext j
      by_cases hij : i = j
      · subst hij; simp [hlt']
      · rw [getD_set_ne false hij]
        have : ¬ j = i := fun e => hij e.symm
        simp [this]
    refine ih _ a' w' (by simp [hsz]) ?_ (by rw [eD]; exact h')
    have := filter_less (fun j => !listed.getD j false) i (List.range ops.size) List.nodup_range (List.mem_range.2 hlt) (by simp only [hi0, Bool.not_false])
    have e2 : (fun j => !(listed.setIfInBounds i true).getD j false) = fun j => !listed.getD j false && !decide (j = i) := by
      funext j
      rw [show (listed.setIfInBounds i true).getD j false = (listed.getD j false || decide (j = i)) from congrFun eD j, Bool.not_or]
    rw [e2]
    omega

theorem wp_region_inv2 (Inv : (Nat → Bool) → Act → World → Prop) {id : Nat} {a : Act} {w : World} (hm : P.follows .mixedOrders = true)
    (hord : ∀ (i : Nat) (o : Oper), ops[i]? = some o → ∀ e ∈ o.after, Region.binds .any e = true → e.on < i)
    (hstep : ∀ (D : Nat → Bool) (a : Act) (w : World) (i : Nat) (o : Oper), ops[i]? = some o → D i = false → (∀ e ∈ o.after, Region.binds .any e = true → D e.on = true) → Inv D a w → wpOp P ops Q i (Inv fun j => D j || decide (j = i)) a w)
    (hdone : ∀ (D : Nat → Bool) (a : Act) (w : World), (∀ j, j < ops.size → D j = true) → Inv D a w → Q .normal a w)
    (h0 : Inv (fun _ => false) a { w with drawn := w.drawn + 1 }) : (Code.region id ops true).wp P Q a w := by
  refine wp_region_any hm (wpAny_inv2 Inv hord hstep hdone ops.size _ a _ (by simp) ?_ ?_)
  · have e : ((List.range ops.size).filter fun j => !(Array.replicate ops.size false).getD j false) = List.range ops.size := by
      apply List.filter_eq_self.2
      intro j hj
      have := List.mem_range.1 hj
      simp [this]
    rw [e, List.length_range]
  · have e : (fun j => (Array.replicate ops.size false).getD j false) = fun _ => false := by
      funext j
      by_cases h : j < ops.size <;> simp [h]
    rw [e]; exact h0
end

def ordOk2 (ops : Array Oper) : Bool := (List.range ops.size).all fun i => ((ops[i]?).map fun o => o.after.all fun e => !(Region.binds .any e) || decide (e.on < i)).getD true
theorem ordOk2.out {ops : Array Oper} (h : ordOk2 ops = true) : ∀ (i : Nat) (o : Oper), ops[i]? = some o → ∀ e ∈ o.after, Region.binds .any e = true → e.on < i := by
  intro i o ho e he hb
  have hlt := (Array.getElem?_eq_some_iff.1 ho).1
  have h1 := List.all_eq_true.1 h i (List.mem_range.2 hlt)
  rw [ho] at h1
  have h2 := Array.all_eq_true_iff_forall_mem.1 h1 e he
  rw [hb] at h2
  exact of_decide_eq_true h2

theorem os_len : osKeys.length = 18 := by decide +kernel
theorem ar_len : arKeys.length = 24 := by decide +kernel
theorem getD_contains {l : List (List UInt8)} {i : Nat} (h : i < l.length) : l.contains (l.getD i []) = true := by
  rw [List.contains_iff_mem, List.getD_eq_getElem?_getD, List.getElem?_eq_getElem h]
  exact List.getElem_mem h
theorem getD_small {l : List (List UInt8)} {i : Nat} (hp : (l.all fun p => decide (p.length ≤ 100)) = true) (h : i < l.length) : (BL (l.getD i [])).size ≤ 100 := by
  have := List.all_eq_true.1 hp (l.getD i []) (by rw [List.getD_eq_getElem?_getD, List.getElem?_eq_getElem h]; exact List.getElem_mem h)
  simpa [BL, ByteArray.size] using this
theorem nm_list0 (a b c : ByteArray) : (a ++ ⟨#[95]⟩ ++ b ++ ⟨#[95]⟩ ++ c).data.toList = nameL a.data.toList b.data.toList c.data.toList [] := by
  unfold nameL
  simp only [ByteArray.data_append, Array.toList_append, List.append_assoc, List.append_nil]
  rfl
theorem nm_list1 (a b c : ByteArray) : (a ++ ⟨#[95]⟩ ++ b ++ ⟨#[95]⟩ ++ c ++ ⟨#[95, 116, 101, 115, 116]⟩).data.toList = nameL a.data.toList b.data.toList c.data.toList (95 :: testL) := by
  unfold nameL
  simp only [ByteArray.data_append, Array.toList_append, List.append_assoc]
  rfl
theorem nm_size0 {a b c : ByteArray} (h1 : a.size ≤ 2147483647) (h2 : b.size ≤ 100) (h3 : c.size ≤ 100) : (a ++ ⟨#[95]⟩ ++ b ++ ⟨#[95]⟩ ++ c).size ≤ 2147484000 := by
  have e : (⟨#[95]⟩ : ByteArray).size = 1 := rfl
  simp only [ByteArray.size_append, e]; omega
theorem nm_size1 {a b c : ByteArray} (h1 : a.size ≤ 2147483647) (h2 : b.size ≤ 100) (h3 : c.size ≤ 100) : (a ++ ⟨#[95]⟩ ++ b ++ ⟨#[95]⟩ ++ c ++ ⟨#[95, 116, 101, 115, 116]⟩).size ≤ 2147484000 := by
  have e : (⟨#[95]⟩ : ByteArray).size = 1 := rfl
  have e2 : (⟨#[95, 116, 101, 115, 116]⟩ : ByteArray).size = 5 := rfl
  simp only [ByteArray.size_append, e, e2]; omega
theorem parts_fit {W T L : List UInt8} {so sr : ByteArray} (hO : osKeys.contains so.data.toList = true) (hR : arKeys.contains sr.data.toList = true) (hT : T = [] ∨ T = 95 :: testL) (hs : stem L = nameL W so.data.toList sr.data.toList T) (S : Stg) :
    fitsN { S with os := so, ar := sr } L = true ∧ fitsN (bare noneB sr) L = false ∧ fitsN (bare so noneB) L = false := by
  have hi := implied_name hO hR hT hs
  have hc := clash hO hR
  rw [BL_data, BL_data] at hc
  refine ⟨?_, ?_, ?_⟩ <;> rw [fits_name hi, BL_data, BL_data]
  · rw [show met unixKeys { S with os := so, ar := sr } so = true from met_os { S with os := so, ar := sr }, show met unixKeys { S with os := so, ar := sr } sr = true from met_ar { S with os := so, ar := sr }]; rfl
  · rw [hc.1, Bool.false_and]
  · rw [hc.2, Bool.and_false]
/-- What the four calls of the law answer. -/
structure NameFit (so sr nm : ByteArray) : Prop where
  t1 : ∀ S : Stg, fitsN { S with os := so, ar := sr } (nm ++ ⟨#[46, 103, 111]⟩).data.toList = true
  t2 : ∀ S : Stg, fitsN { S with os := so, ar := sr } nm.data.toList = true
  u : fitsN (bare noneB sr) (nm ++ ⟨#[46, 103, 111]⟩).data.toList = false
  v : fitsN (bare so noneB) (nm ++ ⟨#[46, 115]⟩).data.toList = false
theorem name_fits {word so sr nm : ByteArray} {T : List UInt8} (hw : word.data.toList.all isWord = true) (hO : osKeys.contains so.data.toList = true) (hR : arKeys.contains sr.data.toList = true) (hT : T = [] ∨ T = 95 :: testL)
    (h : nm.data.toList = nameL word.data.toList so.data.toList sr.data.toList T) : NameFit so sr nm := by
  have hd := nameL_nodot (word_nodot hw) hO hR hT
  have s0 := stem_none hd
  have s1 : stem (nm ++ ⟨#[46, 103, 111]⟩).data.toList = nameL word.data.toList so.data.toList sr.data.toList T := by
    rw [ByteArray.data_append, Array.toList_append, h]; exact stem_dot hd
  have s2 : stem (nm ++ ⟨#[46, 115]⟩).data.toList = nameL word.data.toList so.data.toList sr.data.toList T := by
    rw [ByteArray.data_append, Array.toList_append, h]; exact stem_dot hd
  exact ⟨fun S => (parts_fit hO hR hT s1 S).1, fun S => (parts_fit hO hR hT (by rw [h]; exact s0) S).1, (parts_fit hO hR hT s1 (bare so sr)).2.1, (parts_fit hO hR hT s2 (bare so sr)).2.2⟩
theorem nm_go {nm : ByteArray} (h : nm.size ≤ 2147484000) : (nm ++ ⟨#[46, 103, 111]⟩).size ≤ 70368744177664 / 16 := by
  have e : (⟨#[46, 103, 111]⟩ : ByteArray).size = 3 := rfl
  simp only [ByteArray.size_append, e]; omega
theorem nm_s {nm : ByteArray} (h : nm.size ≤ 2147484000) : (nm ++ ⟨#[46, 115]⟩).size ≤ 70368744177664 / 16 := by
  have e : (⟨#[46, 115]⟩ : ByteArray).size = 2 := rfl
  simp only [ByteArray.size_append, e]; omega
theorem nm_sz {nm : ByteArray} (h : nm.size ≤ 2147484000) : nm.size ≤ 70368744177664 / 16 := by omega
theorem bare_ok (o r : ByteArray) (w : World) : (bare o r).Ok w := ⟨strs_none _ _, strs_none _ _, strs_none _ _, Nat.zero_le _, Nat.zero_le _, Nat.zero_le _⟩
/-- The three settings of the law, each in a block of its own. -/
structure Three (S : Stg) (so sr : ByteArray) (bt bu bv : Nat) (w0 w : World) : Prop where
  env : EnvA w0 S w0.heap.size none [] w
  t : BoxH { S with os := so, ar := sr } bt w
  u : BoxH (bare noneB sr) bu w
  v : BoxH (bare so noneB) bv w
section
variable {S : Stg} {so sr : ByteArray} {bt bu bv : Nat} {w0 w w' : World}
theorem Three.on (h : Three S so sr bt bu bv w0 w) (hb : Below w.heap.size w w') : Three S so sr bt bu bv w0 w' := ⟨h.env.on hb, h.t.below hb, h.u.below hb, h.v.below hb⟩
theorem Three.tok (h : Three S so sr bt bu bv w0 w) (hf : S.fits = true) : Stg.Ok { S with os := so, ar := sr } w := by
  have := h.env.env.rd.ok hf
  exact ⟨this.h1, this.h2, this.h3, this.l1, this.l2, this.l3⟩
theorem Three.tc (h : Three S so sr bt bu bv w0 w) : w.cell? ⟨bt, 0, none⟩ = some (.string so) ∧ w.cell? ⟨bt, 1, none⟩ = some (.string sr) ∧ w.cell? ⟨bt, 2, none⟩ = some (.bool S.cgo) ∧ w.cell? ⟨bt, 3, none⟩ = some (.string S.co) ∧ w.cell? ⟨bt, 4, none⟩ = some (.slice S.A1 S.s1.length S.c1) ∧ w.cell? ⟨bt, 5, none⟩ = some (.slice S.A2 S.s2.length S.c2) ∧ w.cell? ⟨bt, 6, none⟩ = some (.slice S.A3 S.s3.length S.c3) := ⟨h.t.at_.c0, h.t.at_.c1, h.t.at_.c2, h.t.at_.c3, h.t.at_.c4, h.t.at_.c5, h.t.at_.c6⟩
theorem Three.uc (h : Three S so sr bt bu bv w0 w) : w.cell? ⟨bu, 0, none⟩ = some (.string ⟨#[110, 111, 110, 101]⟩) ∧ w.cell? ⟨bu, 1, none⟩ = some (.string sr) ∧ w.cell? ⟨bu, 2, none⟩ = some (.bool false) ∧ w.cell? ⟨bu, 3, none⟩ = some (.string ⟨#[]⟩) ∧ w.cell? ⟨bu, 4, none⟩ = some (.slice none 0 0) ∧ w.cell? ⟨bu, 5, none⟩ = some (.slice none 0 0) ∧ w.cell? ⟨bu, 6, none⟩ = some (.slice none 0 0) := ⟨h.u.at_.c0, h.u.at_.c1, h.u.at_.c2, h.u.at_.c3, h.u.at_.c4, h.u.at_.c5, h.u.at_.c6⟩
theorem Three.vc (h : Three S so sr bt bu bv w0 w) : w.cell? ⟨bv, 0, none⟩ = some (.string so) ∧ w.cell? ⟨bv, 1, none⟩ = some (.string ⟨#[110, 111, 110, 101]⟩) ∧ w.cell? ⟨bv, 2, none⟩ = some (.bool false) ∧ w.cell? ⟨bv, 3, none⟩ = some (.string ⟨#[]⟩) ∧ w.cell? ⟨bv, 4, none⟩ = some (.slice none 0 0) ∧ w.cell? ⟨bv, 5, none⟩ = some (.slice none 0 0) ∧ w.cell? ⟨bv, 6, none⟩ = some (.slice none 0 0) := ⟨h.v.at_.c0, h.v.at_.c1, h.v.at_.c2, h.v.at_.c3, h.v.at_.c4, h.v.at_.c5, h.v.at_.c6⟩
end
theorem none_small : noneB.size ≤ maxLen := by decide
theorem wp_region_inv0 {P : Program} {ops : Array Oper} {Q : Exit → Act → World → Prop} (Inv : Array Value → (Nat → Bool) → Act → World → Prop) {id : Nat} {a : Act} {w : World} (hm : P.follows .mixedOrders = true)
    (hord : ∀ (i : Nat) (o : Oper), ops[i]? = some o → ∀ e ∈ o.after, Region.binds .any e = true → e.on < i)
    (hstep : ∀ (D : Nat → Bool) (b : Act) (w : World) (i : Nat) (o : Oper), ops[i]? = some o → D i = false → (∀ e ∈ o.after, Region.binds .any e = true → D e.on = true) → Inv a.tmps D b w → wpOp P ops Q i (Inv a.tmps fun j => D j || decide (j = i)) b w)
    (hdone : ∀ (D : Nat → Bool) (b : Act) (w : World), (∀ j, j < ops.size → D j = true) → Inv a.tmps D b w → Q .normal b w)
    (h0 : Inv a.tmps (fun _ => false) a { w with drawn := w.drawn + 1 }) : (Code.region id ops true).wp P Q a w := wp_region_inv2 (Inv a.tmps) hm hord hstep hdone h0

set_option maxRecDepth 100000 in
set_option maxHeartbeats 8000000 in
theorem namePartsLaw (word : ByteArray) (sys mac : Int) (test : Bool) (S : Stg) (w : World) (hw : word.size ≤ maxLen) (hS : S.Rd w) (hm : AllIs w) :
    Calls Tryd.prog 6 #[.string word, .int .i64 sys, .int .i64 mac, .bool test, S.val] w (TruePost w) := by
  have B1 := (Below.refl w.heap.size w).alloc (Nat.le_refl _) (.cells S.cells 24)
  have hE1 : EnvA w S w.heap.size none [] (w.alloc (.cells S.cells 24)) := ⟨⟨B1, hm.unix.below B1, hS.below B1, BoxAt.new S w, strs_none _ _⟩, hm.below B1⟩
  clear B1 hm hS
  have HGO := Lib.hid (fits_go S)
  have hi := modN_lt sys (show 0 < 18 by omega)
  have hj := modN_lt mac (show 0 < 24 by omega)
  unfold maxLen at hw
  obtain ⟨so, HOD, HO, hos1⟩ : ∃ so, Hid (BL (osKeys.getD (modN sys 18) []) = so) ∧ Hid (osKeys.contains so.data.toList = true) ∧ so.size ≤ 100 := ⟨_, Lib.hid rfl, Lib.hid (getD_contains (by rw [os_len]; exact hi)), getD_small osKeys_small.1 (by rw [os_len]; exact hi)⟩
  obtain ⟨sr, HRD, HR, hrs1⟩ : ∃ sr, Hid (BL (arKeys.getD (modN mac 24) []) = sr) ∧ Hid (arKeys.contains sr.data.toList = true) ∧ sr.size ≤ 100 := ⟨_, Lib.hid rfl, Lib.hid (getD_contains (by rw [ar_len]; exact hj)), getD_small arKeys_small.1 (by rw [ar_len]; exact hj)⟩
  by_cases hsz : word.size ≤ 2147483647
  case neg =>
    unfold Stg.val Stg.cells at *
    go_enter Tryd.func6, Tryd.ntmps6
    go_wp2_with fail
    go_ret
    exact ⟨rfl, hE1.env.below⟩
  cases hf : S.fits
  · have HF := Lib.hid hf; clear hf
    obtain ⟨_, c0, c1, c2, c3, c4, c5, c6⟩ := hE1.env.box
    unfold Stg.val Stg.cells at *
    go_enter Tryd.func6, Tryd.ntmps6
    go_wp2_with fail
    refine (fits1_any S _ hE1.env.rd).mono ?_; rintro e w2 ⟨rfl, hb⟩; rw [HF.out]
    have hE2 := hE1.on hb
    clear hb
    go_wp2_with fail
    go_ret
    exact ⟨rfl, hE2.env.below⟩
  have HF := Lib.hid hf; clear hf
  cases hn : isName word
  · have HN := Lib.hid hn; clear hn
    unfold Stg.val Stg.cells at *
    go_enter Tryd.func6, Tryd.ntmps6
    go_wp2_with fail
    refine (fits1_any S _ hE1.env.rd).mono ?_; rintro e w2 ⟨rfl, hb⟩; rw [HF.out]
    have hE2 := hE1.on hb
    clear hb hE1
    have hok := hE2.env.rd.ok HF.out
    have hos := hE2.env.rd.mo
    obtain ⟨_, c0, c1, c2, c3, c4, c5, c6⟩ := hE2.env.box
    go_wp2_with fail
    refine (isName_any word (by unfold maxLen; omega) _).mono ?_; rintro e w3 ⟨rfl, rfl⟩; rw [HN.out]
    go_wp2_with fail
    refine (nameFits_any S ⟨#[97, 46, 103, 111]⟩ _ (by decide) hok hE2.all hos).mono ?_; rintro e w7 ⟨rfl, hb7⟩
    have hE7 := hE2.on hb7
    clear hb7 hE2 c0 c1 c2 c3 c4 c5 c6 hok hos
    go_wp2_with fail
    go_ret
    exact ⟨ret_bool HGO.out, hE7.env.below⟩
  have HN := Lib.hid hn; clear hn
  unfold Stg.val Stg.cells at *
  go_enter Tryd.func6, Tryd.ntmps6
  go_wp2_with fail
  refine (fits1_any S _ hE1.env.rd).mono ?_; rintro e w2 ⟨rfl, hb⟩; rw [HF.out]
  have hE2 := hE1.on hb
  clear hb hE1
  go_wp2_with fail
  refine (isName_any word (by unfold maxLen; omega) _).mono ?_; rintro e w3 ⟨rfl, rfl⟩; rw [HN.out]
  go_upto_region 5 with fail
  rename_i K hK
  refine wp_region_inv0 (fun t0 => PInv so sr (modN sys 18) (modN mac 24) sys mac t0 w2) (by kernel_rfl) ?_ ?_ ?_ ?_
  · exact ordOk2.out (by kernel_rfl)
  · intro D a w' i o ho hD hpre hI
    have hi16 : i < 16 := (Array.getElem?_eq_some_iff.1 ho).1
    obtain rfl | rfl | rfl | rfl | rfl | rfl | rfl | rfl | rfl | rfl | rfl | rfl | rfl | rfl | rfl | rfl : i = 0 ∨ i = 1 ∨ i = 2 ∨ i = 3 ∨ i = 4 ∨ i = 5 ∨ i = 6 ∨ i = 7 ∨ i = 8 ∨ i = 9 ∨ i = 10 ∨ i = 11 ∨ i = 12 ∨ i = 13 ∨ i = 14 ∨ i = 15 := by omega
    all_goals obtain rfl : _ = o := Option.some.inj ho
    · refine step_call2 (f := 17) (args := #[]) (R := fun v w2 => KeysAt osKeys 18 v w2 ∧ Below w'.heap.size w' w2) rfl rfl (fun hρ => ?_) ((systems_any _).mono fun e w2 ⟨v, he, hk, hb⟩ => ⟨v, he, hk, hb⟩) (fun v w2 hR => hI.put (k := 0) (by omega) hR.2 hR.1)
      exact run_call_fn rfl Tryd.func17 (by kernel_rfl) (by kernel_rfl) (by simp)
    · refine step_of (v := .int .i64 sys) (w' := w') rfl rfl (fun ρ hρ => ?_) (hI.put (k := 1) (by omega) (Below.refl _ _) rfl)
      have e0 := hρ 1 (.int .i64 sys) (hI.old 1 (by decide))
      clear hρ hpre hI
      go_simp
    · refine step_call2 (f := 17) (args := #[]) (R := fun v w2 => KeysAt osKeys 18 v w2 ∧ Below w'.heap.size w' w2) rfl rfl (fun hρ => ?_) ((systems_any _).mono fun e w2 ⟨v, he, hk, hb⟩ => ⟨v, he, hk, hb⟩) (fun v w2 hR => hI.put (k := 2) (by omega) hR.2 hR.1)
      exact run_call_fn rfl Tryd.func17 (by kernel_rfl) (by kernel_rfl) (by simp)
    · obtain ⟨u2, hu2, g, cap, ss, rfl, hl, hp, hs⟩ := hI.left 2 (by omega) (hpre ⟨2, .data⟩ (by simp) rfl)
      refine step_of (v := .int .i64 18) (w' := w') rfl rfl (fun ρ hρ => ?_) (hI.put (k := 3) (by omega) (Below.refl _ _) rfl)
      have e2 := hρ 32 _ hu2
      clear hρ hpre hI
      go_simp
    · obtain ⟨u1, hu1, rfl⟩ := hI.left 1 (by omega) (hpre ⟨1, .data⟩ (by simp) rfl)
      obtain ⟨u3, hu3, rfl⟩ := hI.left 3 (by omega) (hpre ⟨3, .data⟩ (by simp) rfl)
      refine step_call2 (f := 18) (args := #[.int .i64 sys, .int .i64 18]) (R := fun v w2 => v = .int .i64 (modN sys 18 : Nat) ∧ w' = w2) rfl rfl (fun hρ => ?_) ((mod_any sys 18 (by omega) (by omega) _).mono fun e w2 ⟨he, hw⟩ => ⟨_, he, rfl, hw⟩) (fun v w2 hR => by obtain ⟨rfl, rfl⟩ := hR; exact hI.put (k := 4) (by omega) (Below.refl _ _) rfl)
      have e1 := hρ 31 _ hu1
      have e3 := hρ 33 _ hu3
      exact run_call_fn rfl Tryd.func18 (by kernel_rfl) (by kernel_rfl) (by rw [List.map_toArray]; simp only [List.map_cons, List.map_nil, e1, e3])
    · obtain ⟨u0, hu0, g, cap, ss, rfl, hl, hp, hs⟩ := hI.left 0 (by omega) (hpre ⟨0, .data⟩ (by simp) rfl)
      have hcell := KeysAt.cell (ks := osKeys) (n := 18) (cap := cap) (w := w') ⟨g, cap, ss, rfl, hl, hp, hs⟩ hi
      rw [HOD.out] at hcell
      obtain ⟨u4, hu4, rfl⟩ := hI.left 4 (by omega) (hpre ⟨4, .data⟩ (by simp) rfl)
      refine step_of (v := .pointer (some ⟨g, modN sys 18, none⟩)) (w' := w') rfl rfl (fun ρ hρ => ?_) (hI.put (k := 5) (by omega) (Below.refl _ _) ⟨g, rfl, hcell.1, hcell.2⟩)
      have e0 := hρ 30 _ hu0
      have e4 := hρ 34 _ hu4
      have hi0 : (0 : Int) ≤ (modN sys 18 : Int) := by omega
      have hi1 : (modN sys 18 : Int) < 18 := by omega
      clear hcell hl hp hs hu0
      clear hρ hpre hI
      go_simp
    · obtain ⟨u5, hu5, g, rfl, hg, hc⟩ := hI.left 5 (by omega) (hpre ⟨5, .data⟩ (by simp) rfl)
      refine step_of (v := .string so) (w' := w') rfl rfl (fun ρ hρ => ?_) (hI.put (k := 6) (by omega) (Below.refl _ _) rfl)
      have e5 := hρ 35 _ hu5
      clear hρ hpre hI
      go_simp
    · refine step_call2 (f := 19) (args := #[]) (R := fun v w2 => KeysAt arKeys 24 v w2 ∧ Below w'.heap.size w' w2) rfl rfl (fun hρ => ?_) ((machines_any _).mono fun e w2 ⟨v, he, hk, hb⟩ => ⟨v, he, hk, hb⟩) (fun v w2 hR => hI.put (k := 7) (by omega) hR.2 hR.1)
      exact run_call_fn rfl Tryd.func19 (by kernel_rfl) (by kernel_rfl) (by simp)
    · refine step_of (v := .int .i64 mac) (w' := w') rfl rfl (fun ρ hρ => ?_) (hI.put (k := 8) (by omega) (Below.refl _ _) rfl)
      have e0 := hρ 2 (.int .i64 mac) (hI.old 2 (by decide))
      clear hρ hpre hI
      go_simp
    · refine step_call2 (f := 19) (args := #[]) (R := fun v w2 => KeysAt arKeys 24 v w2 ∧ Below w'.heap.size w' w2) rfl rfl (fun hρ => ?_) ((machines_any _).mono fun e w2 ⟨v, he, hk, hb⟩ => ⟨v, he, hk, hb⟩) (fun v w2 hR => hI.put (k := 9) (by omega) hR.2 hR.1)
      exact run_call_fn rfl Tryd.func19 (by kernel_rfl) (by kernel_rfl) (by simp)
    · obtain ⟨u9, hu9, g, cap, ss, rfl, hl, hp, hs⟩ := hI.left 9 (by omega) (hpre ⟨9, .data⟩ (by simp) rfl)
      refine step_of (v := .int .i64 24) (w' := w') rfl rfl (fun ρ hρ => ?_) (hI.put (k := 10) (by omega) (Below.refl _ _) rfl)
      have e9 := hρ 39 _ hu9
      clear hρ hpre hI
      go_simp
    · obtain ⟨u8, hu8, rfl⟩ := hI.left 8 (by omega) (hpre ⟨8, .data⟩ (by simp) rfl)
      obtain ⟨u10, hu10, rfl⟩ := hI.left 10 (by omega) (hpre ⟨10, .data⟩ (by simp) rfl)
      refine step_call2 (f := 18) (args := #[.int .i64 mac, .int .i64 24]) (R := fun v w2 => v = .int .i64 (modN mac 24 : Nat) ∧ w' = w2) rfl rfl (fun hρ => ?_) ((mod_any mac 24 (by omega) (by omega) _).mono fun e w2 ⟨he, hw⟩ => ⟨_, he, rfl, hw⟩) (fun v w2 hR => by obtain ⟨rfl, rfl⟩ := hR; exact hI.put (k := 11) (by omega) (Below.refl _ _) rfl)
      have e8 := hρ 38 _ hu8
      have e10 := hρ 40 _ hu10
      exact run_call_fn rfl Tryd.func18 (by kernel_rfl) (by kernel_rfl) (by rw [List.map_toArray]; simp only [List.map_cons, List.map_nil, e8, e10])
    · obtain ⟨u7, hu7, g, cap, ss, rfl, hl, hp, hs⟩ := hI.left 7 (by omega) (hpre ⟨7, .data⟩ (by simp) rfl)
      have hcell := KeysAt.cell (ks := arKeys) (n := 24) (cap := cap) (w := w') ⟨g, cap, ss, rfl, hl, hp, hs⟩ hj
      rw [HRD.out] at hcell
      obtain ⟨u11, hu11, rfl⟩ := hI.left 11 (by omega) (hpre ⟨11, .data⟩ (by simp) rfl)
      refine step_of (v := .pointer (some ⟨g, modN mac 24, none⟩)) (w' := w') rfl rfl (fun ρ hρ => ?_) (hI.put (k := 12) (by omega) (Below.refl _ _) ⟨g, rfl, hcell.1, hcell.2⟩)
      have e7 := hρ 37 _ hu7
      have e11 := hρ 41 _ hu11
      have hi0 : (0 : Int) ≤ (modN mac 24 : Int) := by omega
      have hi1 : (modN mac 24 : Int) < 24 := by omega
      clear hcell hl hp hs hu7
      clear hρ hpre hI
      go_simp
    · obtain ⟨u12, hu12, g, rfl, hg, hc⟩ := hI.left 12 (by omega) (hpre ⟨12, .data⟩ (by simp) rfl)
      refine step_of (v := .string sr) (w' := w') rfl rfl (fun ρ hρ => ?_) (hI.put (k := 13) (by omega) (Below.refl _ _) rfl)
      have e12 := hρ 42 _ hu12
      clear hρ hpre hI
      go_simp
    · obtain ⟨u6, hu6, rfl⟩ := hI.left 6 (by omega) (hpre ⟨6, .data⟩ (by simp) rfl)
      refine step_of (v := .string so) (w' := w') rfl rfl (fun ρ hρ => ?_) (hI.put (k := 14) (by omega) (Below.refl _ _) rfl)
      have e6 := hρ 36 _ hu6
      clear hρ hpre hI
      go_simp
    · obtain ⟨u13, hu13, rfl⟩ := hI.left 13 (by omega) (hpre ⟨13, .data⟩ (by simp) rfl)
      refine step_of (v := .string sr) (w' := w') rfl rfl (fun ρ hρ => ?_) (hI.put (k := 15) (by omega) (Below.refl _ _) rfl)
      have e13 := hρ 43 _ hu13
      clear hρ hpre hI
      go_simp
  · intro D a w4 hD hI
    obtain ⟨v14, hu14, h14⟩ := hI.left 14 (by omega) (hD 14 (by decide))
    obtain ⟨v15, hu15, h15⟩ := hI.left 15 (by omega) (hD 15 (by decide))
    obtain rfl : v14 = .string so := h14
    obtain rfl : v15 = .string sr := h15
    have hE4 := hE2.on hI.below
    have hbel4 := hI.below
    obtain ⟨tm, df⟩ := a
    obtain rfl : df = [] := hI.defers
    have hsz4 : tm.size = 86 := hI.size
    obtain ⟨x, hx⟩ : ∃ x : Nat → Value, ∀ s ∈ slots5, tm[s]? = some (x s) := ⟨fun s => (tm[s]?).getD undef, fun s hs => by
      have : s < tm.size := by rw [hsz4]; exact of_decide_eq_true (List.all_eq_true.1 (show (slots5.all fun s => decide (s < 86)) = true by decide) s hs)
      show tm[s]? = some ((tm[s]?).getD undef)
      rw [Array.getElem?_eq_getElem this]; rfl⟩
    have e := setsA_eq (by rw [hsz4]; rfl) hx hI.old
    have hx11 : x 11 = .string so := Option.some.inj ((hx 11 (by decide)).symm.trans hu14)
    have hx12 : x 12 = .string sr := Option.some.inj ((hx 12 (by decide)).symm.trans hu15)
    clear hI hD hu14 hu15 hx hsz4 hE2
    have hK2 := hK ⟨tm, []⟩ w4
    clear hK
    refine hK2 ?_
    clear hK2 K
    simp only [slots5, setsA, List.map_cons, List.map_nil, List.foldl_cons, List.foldl_nil, hx11, hx12, List.setIfInBounds_toArray, List.set_cons_zero, List.set_cons_succ] at e
    clear hx11 hx12
    subst e
    clear hi hj HOD HRD
    cases test
    · go_upto_region 9 with fail
      obtain ⟨nm, hnm, HNM, hns⟩ : ∃ nm : ByteArray, word ++ ⟨#[95]⟩ ++ so ++ ⟨#[95]⟩ ++ sr = nm ∧ Hid (nm.data.toList = nameL word.data.toList so.data.toList sr.data.toList []) ∧ nm.size ≤ 2147484000 := ⟨_, rfl, Lib.hid (nm_list0 word so sr), nm_size0 hsz hos1 hrs1⟩
      rw [hnm]
      clear hnm
      have HFn := Lib.hid (name_fits (T := []) (isName_word HN.out) HO.out HR.out (by simp) HNM.out)
      have hso : so.size ≤ maxLen := by unfold maxLen; omega
      clear hw hsz HN hos1 hrs1
      obtain ⟨_, c0, c1, c2, c3, c4, c5, c6⟩ := hE4.env.box
      go_upto_region 10 with fail
      have hbt := BoxH.new S w4
      have b5 := (Below.refl w4.heap.size w4).alloc (Nat.le_refl _) (.cells S.cells 24)
      clear c0 c1 c2 c3 c4 c5 c6
      unfold Stg.cells at hbt b5
      generalize w4.alloc (.cells _ _) = w5 at *
      have d0 := hbt.at_.c0
      have d0' := hbt.thaw 0
      have hbt1 : BoxH { S with os := so } w4.heap.size (w5.setCell ⟨w4.heap.size, 0, none⟩ (.string so)) := heap_setCell_same w5 w4.heap.size 0 S.cells 24 (.string so) hbt
      have d1 := hbt1.at_.c1
      have d1' := hbt1.thaw 1
      have hbt2 : BoxH { S with os := so, ar := sr } w4.heap.size ((w5.setCell ⟨w4.heap.size, 0, none⟩ (.string so)).setCell ⟨w4.heap.size, 1, none⟩ (.string sr)) := heap_setCell_same _ w4.heap.size 1 _ 24 (.string sr) hbt1
      have b7 : Below w4.heap.size w4 ((w5.setCell ⟨w4.heap.size, 0, none⟩ (.string so)).setCell ⟨w4.heap.size, 1, none⟩ (.string sr)) := (b5.setCell (Nat.le_refl _) _).setCell (Nat.le_refl _) _
      clear hbt hbt1 b5
      go_upto_region 11 with fail
      clear d0 d0' d1 d1'
      generalize (w5.setCell _ _).setCell _ _ = w7 at *
      have hE7 := hE4.on b7
      have hl7 := b7.size
      go_upto_region 12 with fail
      have hU : BoxH (bare noneB sr) w7.heap.size (w7.alloc (.cells #[.string ⟨#[110, 111, 110, 101]⟩, .string sr, .bool false, .string ⟨#[]⟩, .slice none 0 0, .slice none 0 0, .slice none 0 0] 24)) := BoxH.new (bare noneB sr) w7
      have b8 : Below w7.heap.size w7 (w7.alloc (.cells #[.string ⟨#[110, 111, 110, 101]⟩, .string sr, .bool false, .string ⟨#[]⟩, .slice none 0 0, .slice none 0 0, .slice none 0 0] 24)) := (Below.refl w7.heap.size w7).alloc (Nat.le_refl _) _
      generalize w7.alloc (.cells _ _) = w8 at *
      have hE8 := hE7.on b8
      have hT8 := hbt2.below b8
      clear hE7 hbt2 b8 b7 hE4 hbel4 hl7
      go_upto_region 13 with fail
      have hV : BoxH (bare so noneB) w8.heap.size (w8.alloc (.cells #[.string so, .string ⟨#[110, 111, 110, 101]⟩, .bool false, .string ⟨#[]⟩, .slice none 0 0, .slice none 0 0, .slice none 0 0] 24)) := BoxH.new (bare so noneB) w8
      have b9 : Below w8.heap.size w8 (w8.alloc (.cells #[.string so, .string ⟨#[110, 111, 110, 101]⟩, .bool false, .string ⟨#[]⟩, .slice none 0 0, .slice none 0 0, .slice none 0 0] 24)) := (Below.refl w8.heap.size w8).alloc (Nat.le_refl _) _
      generalize w8.alloc (.cells _ _) = w9 at *
      have h3 : Three S so sr w4.heap.size w7.heap.size w8.heap.size w w9 := ⟨hE8.on b9, hT8.below b9, hU.below b9, hV⟩
      clear hE8 hT8 hU hV b9
      obtain ⟨c0, c1, c2, c3, c4, c5, c6⟩ := h3.tc
      go_wp2_with fail
      have hh := nameFits_any { S with os := so, ar := sr } (nm ++ ⟨#[46, 103, 111]⟩) w9 (nm_go hns) (h3.tok HF.out) h3.env.all hso
      refine hh.mono ?_; clear hh; rintro e w10 ⟨rfl, hb⟩; rw [HFn.out.t1 S]
      replace h3 := h3.on hb
      clear c0 c1 c2 c3 c4 c5 c6 hb
      obtain ⟨c0, c1, c2, c3, c4, c5, c6⟩ := h3.tc
      go_wp2_with fail
      have hh := nameFits_any { S with os := so, ar := sr } nm w10 (nm_sz hns) (h3.tok HF.out) h3.env.all hso
      refine hh.mono ?_; clear hh; rintro e w11 ⟨rfl, hb⟩; rw [HFn.out.t2 S]
      replace h3 := h3.on hb
      clear c0 c1 c2 c3 c4 c5 c6 hb
      obtain ⟨c0, c1, c2, c3, c4, c5, c6⟩ := h3.uc
      go_wp2_with fail
      have hh := nameFits_any (bare noneB sr) (nm ++ ⟨#[46, 103, 111]⟩) w11 (nm_go hns) (bare_ok _ _ _) h3.env.all none_small
      refine hh.mono ?_; clear hh; rintro e w12 ⟨rfl, hb⟩; rw [HFn.out.u]
      replace h3 := h3.on hb
      clear c0 c1 c2 c3 c4 c5 c6 hb
      obtain ⟨c0, c1, c2, c3, c4, c5, c6⟩ := h3.vc
      go_wp2_with fail
      have hh := nameFits_any (bare so noneB) (nm ++ ⟨#[46, 115]⟩) w12 (nm_s hns) (bare_ok _ _ _) h3.env.all hso
      refine hh.mono ?_; clear hh; rintro e w13 ⟨rfl, hb⟩; rw [HFn.out.v]
      replace h3 := h3.on hb
      clear c0 c1 c2 c3 c4 c5 c6 hb
      go_wp2_with fail
      go_ret
      exact ⟨rfl, h3.env.env.below⟩
    · go_upto_region 9 with fail
      obtain ⟨nm, hnm, HNM, hns⟩ : ∃ nm : ByteArray, word ++ ⟨#[95]⟩ ++ so ++ ⟨#[95]⟩ ++ sr ++ ⟨#[95, 116, 101, 115, 116]⟩ = nm ∧ Hid (nm.data.toList = nameL word.data.toList so.data.toList sr.data.toList (95 :: testL)) ∧ nm.size ≤ 2147484000 := ⟨_, rfl, Lib.hid (nm_list1 word so sr), nm_size1 hsz hos1 hrs1⟩
      rw [hnm]
      clear hnm
      have HFn := Lib.hid (name_fits (T := (95 :: testL)) (isName_word HN.out) HO.out HR.out (by simp) HNM.out)
      have hso : so.size ≤ maxLen := by unfold maxLen; omega
      clear hw hsz HN hos1 hrs1
      obtain ⟨_, c0, c1, c2, c3, c4, c5, c6⟩ := hE4.env.box
      go_upto_region 10 with fail
      have hbt := BoxH.new S w4
      have b5 := (Below.refl w4.heap.size w4).alloc (Nat.le_refl _) (.cells S.cells 24)
      clear c0 c1 c2 c3 c4 c5 c6
      unfold Stg.cells at hbt b5
      generalize w4.alloc (.cells _ _) = w5 at *
      have d0 := hbt.at_.c0
      have d0' := hbt.thaw 0
      have hbt1 : BoxH { S with os := so } w4.heap.size (w5.setCell ⟨w4.heap.size, 0, none⟩ (.string so)) := heap_setCell_same w5 w4.heap.size 0 S.cells 24 (.string so) hbt
      have d1 := hbt1.at_.c1
      have d1' := hbt1.thaw 1
      have hbt2 : BoxH { S with os := so, ar := sr } w4.heap.size ((w5.setCell ⟨w4.heap.size, 0, none⟩ (.string so)).setCell ⟨w4.heap.size, 1, none⟩ (.string sr)) := heap_setCell_same _ w4.heap.size 1 _ 24 (.string sr) hbt1
      have b7 : Below w4.heap.size w4 ((w5.setCell ⟨w4.heap.size, 0, none⟩ (.string so)).setCell ⟨w4.heap.size, 1, none⟩ (.string sr)) := (b5.setCell (Nat.le_refl _) _).setCell (Nat.le_refl _) _
      clear hbt hbt1 b5
      go_upto_region 11 with fail
      clear d0 d0' d1 d1'
      generalize (w5.setCell _ _).setCell _ _ = w7 at *
      have hE7 := hE4.on b7
      have hl7 := b7.size
      go_upto_region 12 with fail
      have hU : BoxH (bare noneB sr) w7.heap.size (w7.alloc (.cells #[.string ⟨#[110, 111, 110, 101]⟩, .string sr, .bool false, .string ⟨#[]⟩, .slice none 0 0, .slice none 0 0, .slice none 0 0] 24)) := BoxH.new (bare noneB sr) w7
      have b8 : Below w7.heap.size w7 (w7.alloc (.cells #[.string ⟨#[110, 111, 110, 101]⟩, .string sr, .bool false, .string ⟨#[]⟩, .slice none 0 0, .slice none 0 0, .slice none 0 0] 24)) := (Below.refl w7.heap.size w7).alloc (Nat.le_refl _) _
      generalize w7.alloc (.cells _ _) = w8 at *
      have hE8 := hE7.on b8
      have hT8 := hbt2.below b8
      clear hE7 hbt2 b8 b7 hE4 hbel4 hl7
      go_upto_region 13 with fail
      have hV : BoxH (bare so noneB) w8.heap.size (w8.alloc (.cells #[.string so, .string ⟨#[110, 111, 110, 101]⟩, .bool false, .string ⟨#[]⟩, .slice none 0 0, .slice none 0 0, .slice none 0 0] 24)) := BoxH.new (bare so noneB) w8
      have b9 : Below w8.heap.size w8 (w8.alloc (.cells #[.string so, .string ⟨#[110, 111, 110, 101]⟩, .bool false, .string ⟨#[]⟩, .slice none 0 0, .slice none 0 0, .slice none 0 0] 24)) := (Below.refl w8.heap.size w8).alloc (Nat.le_refl _) _
      generalize w8.alloc (.cells _ _) = w9 at *
      have h3 : Three S so sr w4.heap.size w7.heap.size w8.heap.size w w9 := ⟨hE8.on b9, hT8.below b9, hU.below b9, hV⟩
      clear hE8 hT8 hU hV b9
      obtain ⟨c0, c1, c2, c3, c4, c5, c6⟩ := h3.tc
      go_wp2_with fail
      have hh := nameFits_any { S with os := so, ar := sr } (nm ++ ⟨#[46, 103, 111]⟩) w9 (nm_go hns) (h3.tok HF.out) h3.env.all hso
      refine hh.mono ?_; clear hh; rintro e w10 ⟨rfl, hb⟩; rw [HFn.out.t1 S]
      replace h3 := h3.on hb
      clear c0 c1 c2 c3 c4 c5 c6 hb
      obtain ⟨c0, c1, c2, c3, c4, c5, c6⟩ := h3.tc
      go_wp2_with fail
      have hh := nameFits_any { S with os := so, ar := sr } nm w10 (nm_sz hns) (h3.tok HF.out) h3.env.all hso
      refine hh.mono ?_; clear hh; rintro e w11 ⟨rfl, hb⟩; rw [HFn.out.t2 S]
      replace h3 := h3.on hb
      clear c0 c1 c2 c3 c4 c5 c6 hb
      obtain ⟨c0, c1, c2, c3, c4, c5, c6⟩ := h3.uc
      go_wp2_with fail
      have hh := nameFits_any (bare noneB sr) (nm ++ ⟨#[46, 103, 111]⟩) w11 (nm_go hns) (bare_ok _ _ _) h3.env.all none_small
      refine hh.mono ?_; clear hh; rintro e w12 ⟨rfl, hb⟩; rw [HFn.out.u]
      replace h3 := h3.on hb
      clear c0 c1 c2 c3 c4 c5 c6 hb
      obtain ⟨c0, c1, c2, c3, c4, c5, c6⟩ := h3.vc
      go_wp2_with fail
      have hh := nameFits_any (bare so noneB) (nm ++ ⟨#[46, 115]⟩) w12 (nm_s hns) (bare_ok _ _ _) h3.env.all hso
      refine hh.mono ?_; clear hh; rintro e w13 ⟨rfl, hb⟩; rw [HFn.out.v]
      replace h3 := h3.on hb
      clear c0 c1 c2 c3 c4 c5 c6 hb
      go_wp2_with fail
      go_ret
      exact ⟨rfl, h3.env.env.below⟩
  · refine ⟨rfl, rfl, fun _ _ => rfl, (Below.refl _ _).drew, fun k _ h => by cases h⟩
theorem namePartsLawB (word : ByteArray) (sys mac : Int) (test : Bool) (S : Stg) (w : World) (hw : word.size ≤ maxLen) {p q : Prop} (h1 : p) (h2 : q) (hS : S.Rd w) (hm : AllIs w) :
    Calls Tryd.prog 6 #[.string word, .int .i64 sys, .int .i64 mac, .bool test, S.val] w (TruePost w) := namePartsLaw word sys mac test S w hw hS hm
end Go.Proofs.YtbociefjibgklaaDoor
