/-
  Systems, Machines; the region of FnNameParts that draws a system and a machine.
-/
import Derived.Test.YtbociefjibgklaaDoorNameQ
namespace Go.Proofs.YtbociefjibgklaaDoor
open Go.RowKit
set_option linter.unusedVariables false
set_option linter.unusedSimpArgs false

/-- A slice of n texts, these. -/
def KeysAt (ks : List (List UInt8)) (n : Nat) (v : Value) (w : World) : Prop :=
  ∃ g cap ss, v = .slice (some ⟨g, 0, none⟩) n cap ∧ ss.length = n ∧ (ss.map fun t => t.data.toList) = ks ∧ Strs w (some ⟨g, 0, none⟩) ss
theorem KeysAt.below {ks : List (List UInt8)} {n : Nat} {v : Value} {w w' : World} (h : KeysAt ks n v w) (hb : Below w.heap.size w w') : KeysAt ks n v w' := by
  obtain ⟨g, cap, ss, e, hl, hp, hs⟩ := h
  exact ⟨g, cap, ss, e, hl, hp, hs.below hb⟩
theorem KeysAt.cell {ks : List (List UInt8)} {n : Nat} {g cap : Nat} {w : World} {i : Nat} (h : KeysAt ks n (.slice (some ⟨g, 0, none⟩) n cap) w) (hi : i < n) : g < w.heap.size ∧ w.cell? ⟨g, i, none⟩ = some (.string (BL (ks.getD i []))) := by
  obtain ⟨g', cap', ss, e, hl, hp, hs⟩ := h
  simp only [Value.slice.injEq, Option.some.injEq, Addr.mk.injEq] at e
  obtain ⟨⟨rfl, -, -⟩, -, rfl⟩ := e
  obtain ⟨b, off, hA, hb, hc⟩ := hs.2 (by omega)
  injection hA with hA
  injection hA with hA1 hA2
  subst hA1 hA2
  refine ⟨hb, ?_⟩
  have := hc i (by omega)
  rw [Nat.zero_add] at this
  rw [this, ← hp, List.getD_eq_getElem?_getD, List.getElem?_map, List.getElem?_eq_getElem (by omega : i < ss.length)]
  simp only [Option.map_some, Option.getD_some, BL_data]

def KeysPost (ks : List (List UInt8)) (n : Nat) (w : World) (e : Ending) (w' : World) : Prop := ∃ v, e = .returned v ∧ KeysAt ks n v w' ∧ Below w.heap.size w w'
theorem systems_any (w : World) : Calls Tryd.prog 17 #[] w (KeysPost osKeys 18 w) := by
  have hs : sysText.size ≤ 70368744177664 / 16 := by decide +kernel
  go_enter Tryd.func17, Tryd.ntmps17
  go_wp2_with fail
  refine (split_any sysText 32 32 rfl hs _).mono ?_; rintro e w2 ⟨g, cap, ss, rfl, hp, how, hbl⟩
  have hp' : (ss.map fun s => s.data.toList) = osKeys := hp
  have hx := few_small osKeys_small hp'
  have hst := own_strs how hx.1
  have hl : ss.length = 18 := by
    have e := congrArg List.length hp'
    rw [List.length_map] at e
    rw [e]; decide +kernel
  have HP := Lib.hid hp'
  clear hp hp' hx how
  have HL := Lib.hid hl
  rw [hl]
  clear hl
  go_wp2_with fail
  refine bodyPost_ret (v := .slice (some ⟨g, 0, none⟩) 18 cap) (by simp [results, Tryd.results17, go_sem]) rfl ⟨_, rfl, ⟨g, cap, ss, rfl, HL.out, HP.out, hst⟩, hbl⟩
theorem machines_any (w : World) : Calls Tryd.prog 19 #[] w (KeysPost arKeys 24 w) := by
  have hs : macText.size ≤ 70368744177664 / 16 := by decide +kernel
  go_enter Tryd.func19, Tryd.ntmps19
  go_wp2_with fail
  refine (split_any macText 32 32 rfl hs _).mono ?_; rintro e w2 ⟨g, cap, ss, rfl, hp, how, hbl⟩
  have hp' : (ss.map fun s => s.data.toList) = arKeys := hp
  have hx := few_small arKeys_small hp'
  have hst := own_strs how hx.1
  have hl : ss.length = 24 := by
    have e := congrArg List.length hp'
    rw [List.length_map] at e
    rw [e]; decide +kernel
  have HP := Lib.hid hp'
  clear hp hp' hx how
  have HL := Lib.hid hl
  rw [hl]
  clear hl
  go_wp2_with fail
  refine bodyPost_ret (v := .slice (some ⟨g, 0, none⟩) 24 cap) (by simp [results, Tryd.results19, go_sem]) rfl ⟨_, rfl, ⟨g, cap, ss, rfl, HL.out, HP.out, hst⟩, hbl⟩

section
variable {P : Program} {ops : Array Oper} {Q : Exit → Act → World → Prop}
/-- A call among the operations of a region in any order. -/
theorem step_call {i : Nat} {o : Oper} {a : Act} {w : World} {K : Act → World → Prop} {f : FuncId} {args : Array Value} {R : Value → World → Prop} (ho : ops[i]? = some o) (hg : o.guard = none)
    (hrun : ∀ ρ : Operand → Value, (∀ t u, a.tmps[t]? = some u → ρ (.tmp t) = u) → (execOp ρ o).run P w = .ok (.enter f args) w)
    (hc : Calls P f args w fun e w' => ∃ v, e = .returned v ∧ R v w') (hK : ∀ v w', R v w' → K (a.put o.dst v) w') : wpOp P ops Q i K a w := by
  unfold wpOp
  simp only [ho]
  have hw : Region.wanted o (yielded ops a.tmps) = true := by simp [Region.wanted, hg]
  rw [if_pos hw]
  refine .inl ?_
  unfold Oper.wp
  rw [hrun a.eval (fun t u h => by simp [Act.eval, h]), Oper.upon_enter]
  refine hc.mono ?_
  rintro e w' ⟨v, rfl, hR⟩
  exact hK v w' hR
end

/-- An array with these places set. -/
def setsA (l : List (Nat × Value)) (t : Array Value) : Array Value := l.foldl (fun t p => t.setIfInBounds p.1 p.2) t
theorem setsA_size (l : List (Nat × Value)) : ∀ t, (setsA l t).size = t.size := by
  induction l with
  | nil => intro t; rfl
  | cons p r ih => intro t; show (setsA r (t.setIfInBounds p.1 p.2)).size = _; rw [ih]; simp
theorem setsA_get (x : Nat → Value) : ∀ (ks : List Nat) (t : Array Value) (j : Nat), j < t.size → (setsA (ks.map fun k => (k, x k)) t)[j]? = if j ∈ ks then some (x j) else t[j]?
  | [], t, j, _ => by simp [setsA]
  | k :: r, t, j, h => by
    show (setsA (r.map fun k => (k, x k)) (t.setIfInBounds k (x k)))[j]? = _
    rw [setsA_get x r _ j (by simpa using h)]
    by_cases hj : j ∈ r
    · simp [hj]
    · by_cases hk : j = k
      · subst hk; simp [hj, h]
      · rw [if_neg hj, if_neg (by simp [hj, hk]), Array.getElem?_setIfInBounds_ne (fun e => hk e.symm)]
theorem setsA_eq {ks : List Nat} {x : Nat → Value} {t u : Array Value} (hs : t.size = u.size) (h1 : ∀ j ∈ ks, t[j]? = some (x j)) (h2 : ∀ j, j ∉ ks → t[j]? = u[j]?) : t = setsA (ks.map fun k => (k, x k)) u := by
  apply Array.ext
  · rw [setsA_size, hs]
  · intro j hj hj'
    have e := setsA_get x ks u j (by omega)
    rw [Array.getElem?_eq_getElem hj'] at e
    by_cases hm : j ∈ ks
    · rw [if_pos hm] at e
      have := h1 j hm
      rw [Array.getElem?_eq_getElem hj] at this
      exact Option.some.inj (this.trans e.symm)
    · rw [if_neg hm] at e
      have := h2 j hm
      rw [Array.getElem?_eq_getElem hj] at this
      exact Option.some.inj (this.trans e.symm)

end Go.Proofs.YtbociefjibgklaaDoor
