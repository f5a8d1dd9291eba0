/-
  readString: the region that saves a literal.
-/
import Derived.Test.YtgplcbobomainaaDoorRdU
import Derived.Test.YtgplcbobomainaaDoorInvB
namespace Go.Proofs.YtgplcbobomainaaDoor.GI
open Go.RowKit
set_option linter.unusedVariables false
set_option linter.unusedSimpArgs false

/-- What waits for what. -/
def sdeps : List (Nat × Nat) := [(9, 7), (10, 9), (11, 10), (12, 11), (12, 3), (14, 12), (14, 13)]
/-- What each operation leaves. -/
def svals (p l g n cap st H : Nat) (LV : Value) (xx : ByteArray) (k : Nat) : Value :=
  match k with
  | 0 => .pointer (some ⟨l, 0, none⟩)
  | 1 => .pointer (some ⟨l, 0, none⟩)
  | 2 => .pointer (some ⟨l, 0, none⟩)
  | 3 => LV
  | 4 => .pointer (some ⟨p, 0, none⟩)
  | 5 => .pointer (some ⟨p, 0, none⟩)
  | 6 => .pointer (some ⟨p, 1, none⟩)
  | 7 => .slice (some ⟨g, 0, none⟩) n cap
  | 8 => .int .i64 (st : Nat)
  | 9 => .slice (some ⟨g, st, none⟩) (n - st) (cap - st)
  | 10 => .string xx
  | 11 => .slice (some ⟨H, 0, none⟩) 1 1
  | _ => .pointer (some ⟨l, 0, none⟩)

theorem put_same {a : Act} {n : Nat} {v : Value} (hs : a.tmps.size = 96) (hn : n < 96) : (a.put (some n) v).tmps[n]? = some v := by simp [Act.put, hs, hn]
structure SInv (b : Nat) (vals : Nat → Value) (t0 : Array Value) (m : Nat) (w3 : World) (Fin : World → Prop) (App : Nat → Nat → World → Prop) (xx : ByteArray) (D : Nat → Bool) (a : Act) (w : World) : Prop where
  size : a.tmps.size = 96
  defers : a.defers = []
  old : ∀ s, (s < b ∨ b + 13 < s) → a.tmps[s]? = t0[s]?
  left : ∀ k, k < 14 → k ≠ 12 → D k = true → a.tmps[b + k]? = some (vals k)
  cl : ∀ x y, (x, y) ∈ sdeps → D x = true → D y = true
  ph : (D 14 = true ∧ Fin w) ∨ (D 14 = false ∧ D 12 = true ∧ ∃ g5 cap5, a.tmps[b + 12]? = some (.slice (some ⟨g5, 0, none⟩) (m + 1) cap5) ∧ App g5 cap5 w) ∨
    (D 14 = false ∧ D 12 = false ∧ D 11 = true ∧ w.heap.size = w3.heap.size + 1 ∧ Below w3.heap.size w3 w ∧ w.heap[w3.heap.size]? = some (.cells #[.string xx] 9 (0, 0))) ∨
    (D 14 = false ∧ D 12 = false ∧ D 11 = false ∧ w.heap.size = w3.heap.size ∧ Below w3.heap.size w3 w)

section
variable {b : Nat} {vals : Nat → Value} {t0 : Array Value} {m : Nat} {w3 : World} {Fin : World → Prop} {App : Nat → Nat → World → Prop} {xx : ByteArray} {D : Nat → Bool} {a : Act} {w : World}
theorem SInv.cl' (h : SInv b vals t0 m w3 Fin App xx D a w) {i : Nat} (hdep : ∀ y, (i, y) ∈ sdeps → D y = true) : ∀ x y, (x, y) ∈ sdeps → (D x || decide (x = i)) = true → (D y || decide (y = i)) = true := by
  intro x y hxy hx
  have hy : D y = true := by
    by_cases hxi : x = i
    · subst hxi; exact hdep y hxy
    · exact h.cl x y hxy (by simpa [hxi] using hx)
  rw [hy, Bool.true_or]
/-- An operation that reads alone. -/
theorem SInv.val (h : SInv b vals t0 m w3 Fin App xx D a w) {k : Nat} {v : Value} (hk : k < 14) (h11 : k ≠ 11) (h12 : k ≠ 12) (hv : v = vals k) (hdep : ∀ y, (k, y) ∈ sdeps → D y = true) (hb : b + 13 < 96 := by decide) :
    SInv b vals t0 m w3 Fin App xx (fun j => D j || decide (j = k)) (a.put (some (b + k)) v) w := by
  have hne : ∀ j, j ≠ k → (a.put (some (b + k)) v).tmps[b + j]? = a.tmps[b + j]? := by
    intro j hj
    simp only [Act.put]
    rw [Array.getElem?_setIfInBounds_ne (by omega)]
  refine ⟨by simp [Act.put, h.size], h.defers, fun s hs => ?_, fun j hj hj12 hD => ?_, h.cl' hdep, ?_⟩
  · simp only [Act.put]
    rw [Array.getElem?_setIfInBounds_ne (by omega)]
    exact h.old s hs
  · by_cases hjk : j = k
    · subst hjk
      subst hv
      have hs : b + j < 96 := by omega
      simp [Act.put, h.size, hs]
    · rw [hne j hjk]
      exact h.left j hj hj12 (by simpa [hjk] using hD)
  · have e14 : (D 14 || decide (14 = k)) = D 14 := by rw [decide_eq_false (by omega), Bool.or_false]
    have e12 : (D 12 || decide (12 = k)) = D 12 := by rw [decide_eq_false (by omega), Bool.or_false]
    have e11 : (D 11 || decide (11 = k)) = D 11 := by rw [decide_eq_false (by omega), Bool.or_false]
    simp only [e14, e12, e11, hne 12 (Ne.symm h12)]
    exact h.ph
theorem SInv.fin (h : SInv b vals t0 m w3 Fin App xx D a w) (hd : D 14 = true) : Fin w := by
  rcases h.ph with h | h | h | h
  · exact h.2
  · rw [hd] at h; cases h.1
  · rw [hd] at h; cases h.1
  · rw [hd] at h; cases h.1
theorem SInv.n12 (h : SInv b vals t0 m w3 Fin App xx D a w) {i : Nat} (hc : D 12 = true → D i = true) (hD : D i = false) : D 12 = false ∧ D 14 = false := by
  have h12 : D 12 = false := by
    cases e : D 12 with
    | false => rfl
    | true => rw [hc e] at hD; cases hD
  refine ⟨h12, ?_⟩
  cases e : D 14 with
  | false => rfl
  | true => rw [h.cl 14 12 (by decide) e] at h12; cases h12
theorem SInv.belowAt (h : SInv b vals t0 m w3 Fin App xx D a w) {i : Nat} (hc : D 12 = true → D i = true) (hD : D i = false) : Below w3.heap.size w3 w := by
  obtain ⟨h12, h14⟩ := h.n12 hc hD
  rcases h.ph with h | h | h | h
  · rw [h14] at h; cases h.1
  · rw [h12] at h; cases h.2.1
  · exact h.2.2.2.2.1
  · exact h.2.2.2.2
theorem SInv.facts {F : World → Prop} (h : SInv b vals t0 m w3 Fin App xx D a w) {LV : Value} (HQ : ∀ w' : World, w3.heap.size ≤ w'.heap.size → (∀ k, k < w3.heap.size → LV.ownBlock ≠ some k → w'.heap[k]? = w3.heap[k]?) → F w') {i : Nat} (hc : D 12 = true → D i = true) (hD : D i = false) : F w := by
  have hb := h.belowAt hc hD
  exact HQ w hb.size (fun k hk _ => hb.block k hk)
theorem SInv.fresh (h : SInv b vals t0 m w3 Fin App xx D a w) (hc : D 12 = true → D 11 = true) (hD : D 11 = false) : w.heap.size = w3.heap.size ∧ Below w3.heap.size w3 w := by
  obtain ⟨h12, h14⟩ := h.n12 hc hD
  rcases h.ph with h | h | h | h
  · rw [h14] at h; cases h.1
  · rw [h12] at h; cases h.2.1
  · rw [hD] at h; cases h.2.2.1
  · exact ⟨h.2.2.2.1, h.2.2.2.2⟩
theorem SInv.laid (h : SInv b vals t0 m w3 Fin App xx D a w) (h11 : D 11 = true) (hD : D 12 = false) : w.heap.size = w3.heap.size + 1 ∧ Below w3.heap.size w3 w ∧ w.heap[w3.heap.size]? = some (.cells #[.string xx] 9 (0, 0)) := by
  have h14 := (h.n12 (i := 12) id hD).2
  rcases h.ph with h | h | h | h
  · rw [h14] at h; cases h.1
  · rw [hD] at h; cases h.2.1
  · exact h.2.2.2
  · rw [h11] at h; cases h.2.2.1
theorem SInv.grown (h : SInv b vals t0 m w3 Fin App xx D a w) (h12 : D 12 = true) (hD : D 14 = false) : ∃ g5 cap5, a.tmps[b + 12]? = some (.slice (some ⟨g5, 0, none⟩) (m + 1) cap5) ∧ App g5 cap5 w := by
  rcases h.ph with h | h | h | h
  · rw [hD] at h; cases h.1
  · exact h.2.2
  · rw [h12] at h; cases h.2.1
  · rw [h12] at h; cases h.2.1
theorem SInv.made (h : SInv b vals t0 m w3 Fin App xx D a w) {v : Value} (hv : v = vals 11) (hdep : ∀ y, (11, y) ∈ sdeps → D y = true) (hD : D 11 = false) (hb : b + 13 < 96 := by decide) :
    SInv b vals t0 m w3 Fin App xx (fun j => D j || decide (j = 11)) (a.put (some (b + 11)) v) (w.alloc (.cells #[.string xx] 9)) := by
  obtain ⟨hz, hbel⟩ := h.fresh (h.cl 12 11 (by decide)) hD
  obtain ⟨h12, h14⟩ := h.n12 (h.cl 12 11 (by decide)) hD
  have hne : ∀ j, j ≠ 11 → (a.put (some (b + 11)) v).tmps[b + j]? = a.tmps[b + j]? := by
    intro j hj
    simp only [Act.put]
    rw [Array.getElem?_setIfInBounds_ne (by omega)]
  refine ⟨by simp [Act.put, h.size], h.defers, fun s hs => ?_, fun j hj hj12 hDj => ?_, h.cl' hdep, .inr (.inr (.inl ⟨by simp [h14], by simp [h12], by simp, by simp [hz], hbel.alloc (by omega) _, by rw [← hz]; exact heap_alloc_new w _⟩))⟩
  · simp only [Act.put]
    rw [Array.getElem?_setIfInBounds_ne (by omega)]
    exact h.old s hs
  · by_cases hjk : j = 11
    · subst hjk
      subst hv
      have hs : b + 11 < 96 := by omega
      simp [Act.put, h.size, hs]
    · rw [hne j hjk]
      exact h.left j hj hj12 (by simpa [hjk] using hDj)
theorem SInv.app (h : SInv b vals t0 m w3 Fin App xx D a w) {g5 cap5 : Nat} {w5 : World} (hdep : ∀ y, (12, y) ∈ sdeps → D y = true) (hD : D 12 = false) (hA : App g5 cap5 w5) (hb : b + 13 < 96 := by decide) :
    SInv b vals t0 m w3 Fin App xx (fun j => D j || decide (j = 12)) (a.put (some (b + 12)) (.slice (some ⟨g5, 0, none⟩) (m + 1) cap5)) w5 := by
  have h14 := (h.n12 (i := 12) id hD).2
  refine ⟨by simp [Act.put, h.size], h.defers, fun s hs => ?_, fun j hj hj12 hDj => ?_, h.cl' hdep, .inr (.inl ⟨by simp [h14], by simp, g5, cap5, put_same h.size (by omega), hA⟩)⟩
  · simp only [Act.put]
    rw [Array.getElem?_setIfInBounds_ne (by omega)]
    exact h.old s hs
  · simp only [Act.put]
    rw [Array.getElem?_setIfInBounds_ne (by omega)]
    exact h.left j hj hj12 (by simpa [hj12] using hDj)
theorem SInv.stored (h : SInv b vals t0 m w3 Fin App xx D a w) {w5 : World} (hdep : ∀ y, (14, y) ∈ sdeps → D y = true) (hF : Fin w5) : SInv b vals t0 m w3 Fin App xx (fun j => D j || decide (j = 14)) (a.put none undef) w5 := by
  refine ⟨h.size, h.defers, h.old, fun j hj hj12 hDj => h.left j hj hj12 (by simpa [show j ≠ 14 by omega] using hDj), h.cl' hdep, .inl ⟨by simp, hF⟩⟩
end

/-- A region of a function, by its number. -/
def findReg (n : Nat) : Code → Option (Array Oper)
  | .region id ops _ => if id = n then some ops else none
  | .seq a b => match findReg n a with
    | some c => some c
    | none => findReg n b
  | .loop c => findReg n c
  | .block _ c => findReg n c
  | .scope c => findReg n c
  | .cond _ a b => match findReg n a with
    | some c => some c
    | none => findReg n b
  | _ => none
noncomputable def ops7 : Array Oper := (Tryd.f55.body.bind (findReg 7)).getD #[]
noncomputable def ops16 : Array Oper := (Tryd.f55.body.bind (findReg 16)).getD #[]

set_option maxRecDepth 100000 in
set_option maxHeartbeats 2000000 in
theorem save_raw {O : Nat → Option Obj} {E : EB} {w0 w3 : World} {p l g n cap st id : Nat} {S : RS} {ls : List ByteArray} {LV : Value} {xx : ByteArray} {a : Act} {Q : Exit → Act → World → Prop} (h3 : Rd O E w0 p S w3) (hl : LsA O w0.heap.size l LV ls w3)
    (HQ : ∀ w' : World, w3.heap.size ≤ w'.heap.size → (∀ k, k < w3.heap.size → LV.ownBlock ≠ some k → w'.heap[k]? = w3.heap[k]?) → w'.cell? ⟨l, 0, none⟩ = some LV ∧ w'.cell? ⟨p, 1, none⟩ = some (.slice (some ⟨g, 0, none⟩) n cap) ∧
      (convert 22 9 (.slice (some ⟨g, st, none⟩) (n - st) (cap - st))).run Tryd.prog w' = .ok (.string xx) w')
    (hst : st < n) (hlc : n ≤ cap) (hcm : cap ≤ maxLen) (hls : ls.length ≤ 4294967296) (hsz : a.tmps.size = 96) (hdf : a.defers = []) (h00 : a.tmps[0]? = some (.pointer (some ⟨p, 0, none⟩))) (h01 : a.tmps[1]? = some (.pointer (some ⟨l, 0, none⟩))) (hst0 : a.tmps[4]? = some (.int .i64 (st : Nat)))
    (hK : ∀ b w', b.tmps.size = 96 → b.defers = [] → (∀ s, (s < 29 ∨ 29+13 < s) → b.tmps[s]? = a.tmps[s]?) → RdL E w0 p l S (ls ++ [xx]) w' → Q .normal b w') :
    Code.wp Tryd.prog (.region id ops7 true) Q a w3 := by
  conv => arg 2; arg 2; whnf
  have hci : ¬ cap = st := by omega
  have hi0 : (0 : Int) ≤ (st : Int) := by omega
  have hi1 : (st : Int) ≤ (n : Int) := by omega
  unfold maxLen at hcm
  obtain ⟨i0, hi2, hz0, hz1, hz2⟩ := info_parts str_info
  refine wp_region_inv2 (SInv 29 (svals p l g n cap st w3.heap.size LV xx) a.tmps ls.length w3 (fun w' => RdL E w0 p l S (ls ++ [xx]) w') (fun g5 cap5 w' => ∃ w1, Below w3.heap.size w3 w1 ∧ w'.ownsRow w0.heap.size 9 1 (.slice (some ⟨g5, 0, none⟩) (ls.length + 1) cap5) (ls.length + 1) (sv ls ++ [.string xx]) ∧ w1.grownBy w' LV.ownBlock ∧ (LV.ownBlock = some g5 ∨ g5 = w1.heap.size)) xx) (by kernel_rfl) ?_ ?_ ?_ ?_
  · exact ordOk2.out (by kernel_rfl)
  · intro D a w' i o ho hD hpre hI
    have hi15 : i < 15 := (Array.getElem?_eq_some_iff.1 ho).1
    have hdep : ∀ y, (i, y) ∈ sdeps → D y = true := by
      obtain rfl | rfl | rfl | rfl | rfl | rfl | rfl | rfl | rfl | rfl | rfl | rfl | rfl | rfl | rfl : i = 0 ∨ i = 1 ∨ i = 2 ∨ i = 3 ∨ i = 4 ∨ i = 5 ∨ i = 6 ∨ i = 7 ∨ i = 8 ∨ i = 9 ∨ i = 10 ∨ i = 11 ∨ i = 12 ∨ i = 13 ∨ i = 14 := by omega
      all_goals
        obtain rfl : _ = o := Option.some.inj ho
        intro y hy
        simp [sdeps] at hy
        try (subst hy; exact hpre ⟨_, .data⟩ (by simp) rfl)
        try (rcases hy with rfl | rfl <;> exact hpre ⟨_, .data⟩ (by simp) rfl)
    obtain rfl | rfl | rfl | rfl | rfl | rfl | rfl | rfl | rfl | rfl | rfl | rfl | rfl | rfl | rfl : i = 0 ∨ i = 1 ∨ i = 2 ∨ i = 3 ∨ i = 4 ∨ i = 5 ∨ i = 6 ∨ i = 7 ∨ i = 8 ∨ i = 9 ∨ i = 10 ∨ i = 11 ∨ i = 12 ∨ i = 13 ∨ i = 14 := by omega
    all_goals obtain rfl : _ = o := Option.some.inj ho
    · refine step_of (v := .pointer (some ⟨l, 0, none⟩)) (w' := w') rfl rfl (fun ρ hρ => ?_) (hI.val (k := 0) (by decide) (by decide) (by decide) rfl hdep)
      have e := hρ 1 _ ((hI.old 1 (by decide)).trans h01)
      clear hρ hpre hI hdep
      go_simp
    · refine step_of (v := .pointer (some ⟨l, 0, none⟩)) (w' := w') rfl rfl (fun ρ hρ => ?_) (hI.val (k := 1) (by decide) (by decide) (by decide) rfl hdep)
      have e := hρ 1 _ ((hI.old 1 (by decide)).trans h01)
      clear hρ hpre hI hdep
      go_simp
    · have u1 : a.tmps[30]? = some (.pointer (some ⟨l, 0, none⟩)) := hI.left 1 (by decide) (by decide) (hpre ⟨1, .data⟩ (by simp) rfl)
      refine step_of (v := .pointer (some ⟨l, 0, none⟩)) (w' := w') rfl rfl (fun ρ hρ => ?_) (hI.val (k := 2) (by decide) (by decide) (by decide) rfl hdep)
      have e1 := hρ 30 _ u1
      clear hρ hpre hI hdep
      go_simp
    · have u2 : a.tmps[31]? = some (.pointer (some ⟨l, 0, none⟩)) := hI.left 2 (by decide) (by decide) (hpre ⟨2, .data⟩ (by simp) rfl)
      obtain ⟨q1, q2, q3⟩ := hI.facts HQ (hI.cl 12 3 (by decide)) hD
      refine step_of (v := LV) (w' := w') rfl rfl (fun ρ hρ => ?_) (hI.val (k := 3) (by decide) (by decide) (by decide) rfl hdep)
      have e2 := hρ 31 _ u2
      clear hρ hpre hI hdep
      go_simp
    · refine step_of (v := .pointer (some ⟨p, 0, none⟩)) (w' := w') rfl rfl (fun ρ hρ => ?_) (hI.val (k := 4) (by decide) (by decide) (by decide) rfl hdep)
      have e := hρ 0 _ ((hI.old 0 (by decide)).trans h00)
      clear hρ hpre hI hdep
      go_simp
    · have u4 : a.tmps[33]? = some (.pointer (some ⟨p, 0, none⟩)) := hI.left 4 (by decide) (by decide) (hpre ⟨4, .data⟩ (by simp) rfl)
      refine step_of (v := .pointer (some ⟨p, 0, none⟩)) (w' := w') rfl rfl (fun ρ hρ => ?_) (hI.val (k := 5) (by decide) (by decide) (by decide) rfl hdep)
      have e4 := hρ 33 _ u4
      clear hρ hpre hI hdep
      go_simp
    · have u5 : a.tmps[34]? = some (.pointer (some ⟨p, 0, none⟩)) := hI.left 5 (by decide) (by decide) (hpre ⟨5, .data⟩ (by simp) rfl)
      refine step_of (v := .pointer (some ⟨p, 1, none⟩)) (w' := w') rfl rfl (fun ρ hρ => ?_) (hI.val (k := 6) (by decide) (by decide) (by decide) rfl hdep)
      have e5 := hρ 34 _ u5
      clear hρ hpre hI hdep
      go_simp
    · have u6 : a.tmps[35]? = some (.pointer (some ⟨p, 1, none⟩)) := hI.left 6 (by decide) (by decide) (hpre ⟨6, .data⟩ (by simp) rfl)
      obtain ⟨q1, q2, q3⟩ := hI.facts HQ (fun h => hI.cl 9 7 (by decide) (hI.cl 10 9 (by decide) (hI.cl 11 10 (by decide) (hI.cl 12 11 (by decide) h)))) hD
      refine step_of (v := .slice (some ⟨g, 0, none⟩) n cap) (w' := w') rfl rfl (fun ρ hρ => ?_) (hI.val (k := 7) (by decide) (by decide) (by decide) rfl hdep)
      have e6 := hρ 35 _ u6
      clear hρ hpre hI hdep
      go_simp
    · refine step_of (v := .int .i64 (st : Nat)) (w' := w') rfl rfl (fun ρ hρ => ?_) (hI.val (k := 8) (by decide) (by decide) (by decide) rfl hdep)
      have e := hρ 4 _ ((hI.old 4 (by decide)).trans hst0)
      clear hρ hpre hI hdep
      go_simp
    · have u7 : a.tmps[36]? = some (.slice (some ⟨g, 0, none⟩) n cap) := hI.left 7 (by decide) (by decide) (hpre ⟨7, .data⟩ (by simp) rfl)
      have u8 : a.tmps[37]? = some (.int .i64 (st : Nat)) := hI.left 8 (by decide) (by decide) (hpre ⟨8, .data⟩ (by simp) rfl)
      refine step_of (v := .slice (some ⟨g, st, none⟩) (n - st) (cap - st)) (w' := w') rfl rfl (fun ρ hρ => ?_) (hI.val (k := 9) (by decide) (by decide) (by decide) rfl hdep)
      have e7 := hρ 36 _ u7
      have e8 := hρ 37 _ u8
      clear hρ hpre hI hdep
      go_simp
    · have u9 : a.tmps[38]? = some (.slice (some ⟨g, st, none⟩) (n - st) (cap - st)) := hI.left 9 (by decide) (by decide) (hpre ⟨9, .data⟩ (by simp) rfl)
      obtain ⟨q1, q2, q3⟩ := hI.facts HQ (fun h => hI.cl 11 10 (by decide) (hI.cl 12 11 (by decide) h)) hD
      refine step_of (v := .string xx) (w' := w') rfl rfl (fun ρ hρ => ?_) (hI.val (k := 10) (by decide) (by decide) (by decide) rfl hdep)
      have e9 := hρ 38 _ u9
      clear hρ hpre hI hdep
      go_simp
    · have u10 : a.tmps[39]? = some (.string xx) := hI.left 10 (by decide) (by decide) (hpre ⟨10, .data⟩ (by simp) rfl)
      have hph := hI.fresh (hI.cl 12 11 (by decide)) hD
      have hz := hph.1
      refine step_of (v := .slice (some ⟨w'.heap.size, 0, none⟩) 1 1) (w' := w'.alloc (.cells #[.string xx] 9)) rfl rfl (fun ρ hρ => ?_) (hI.made (by rw [hz]; rfl) hdep hD)
      have e10 := hρ 39 _ u10
      clear hρ hpre hI hdep hph hz
      go_simp
    · have d11 : D 11 = true := hpre ⟨11, .data⟩ (by simp) rfl
      have d3 : D 3 = true := hpre ⟨3, .data⟩ (by simp) rfl
      have u3 : a.tmps[32]? = some LV := hI.left 3 (by decide) (by decide) d3
      have u11 : a.tmps[40]? = some (.slice (some ⟨w3.heap.size, 0, none⟩) 1 1) := hI.left 11 (by decide) (by decide) d11
      obtain ⟨hz, hbel, hrow⟩ := hI.laid d11 hD
      obtain ⟨g5, cap5, w5, hrun, hown, hgrow, hat, hlt⟩ := run_append_lies (P := Tryd.prog) w' 23 23 w0.heap.size 9 i0 (.string ByteArray.empty) 1 16 Tryd.underlying23 hi2 hz0 hz1 hz2 rfl (by decide) LV ls.length (sv ls) (ownsRow_keep hl.own (fun k hk => hbel.block k (own_lt hl.own k hk).2)) ⟨w3.heap.size, 0, none⟩ 1 1 [.string xx] rfl (World.news_of_block (cs := #[.string xx]) hrow) (fun u hu => by rw [List.mem_singleton] at hu; subst hu; rfl) (by decide) (by unfold maxLen; omega) (by omega) (by have := h3.size; omega) _ rfl
      refine step_of (v := .slice (some ⟨g5, 0, none⟩) (ls.length + 1) cap5) (w' := w5) rfl rfl (fun ρ hρ => ?_) (hI.app hdep hD ⟨w', hbel, hown, hgrow, hat⟩)
      exact run_append_op (.tmp 32) (.tmp 40) 23 rfl (hρ 32 _ u3) (hρ 40 _ u11) hrun
    · have u0 : a.tmps[29]? = some (.pointer (some ⟨l, 0, none⟩)) := hI.left 0 (by decide) (by decide) (hpre ⟨0, .data⟩ (by simp) rfl)
      refine step_of (v := .pointer (some ⟨l, 0, none⟩)) (w' := w') rfl rfl (fun ρ hρ => ?_) (hI.val (k := 13) (by decide) (by decide) (by decide) rfl hdep)
      have e0 := hρ 29 _ u0
      clear hρ hpre hI hdep
      go_simp
    · have d12 : D 12 = true := hpre ⟨12, .data⟩ (by simp) rfl
      have u13 : a.tmps[42]? = some (.pointer (some ⟨l, 0, none⟩)) := hI.left 13 (by decide) (by decide) (hpre ⟨13, .data⟩ (by simp) rfl)
      obtain ⟨g5, cap5, u12, w1, hbel, hown, hgrow, hat⟩ := hI.grown d12 hD
      have hll : l < w3.heap.size := row_lt (h3.obj hl.lcell)
      have hl5 := (hgrow.block l (by have := hbel.size; omega) (fun e => hl.lne e.symm)).trans ((hbel.block l hll).trans (h3.obj hl.lcell))
      have g1 : w'.frozen? ⟨l, 0, none⟩ = false := row_thaw hl5 0
      have g2 : w'.cell? ⟨l, 0, none⟩ = some LV := cells_row hl5 0
      refine step_skip (w' := w'.setCell ⟨l, 0, none⟩ (.slice (some ⟨g5, 0, none⟩) (ls.length + 1) cap5)) rfl rfl (fun ρ hρ => ?_) (hI.stored hdep (RdL.grow h3 hl hbel hown hgrow hat))
      refine run_store_op (x := .tmp 42) (y := .tmp 41) rfl (hρ 42 _ u13) (hρ 41 _ u12) ?_
      clear hρ hpre hI hdep u12 u13 hl5 hbel hown hgrow hat
      go_simp
  · intro D a w' hD hI
    exact hK a w' hI.size hI.defers hI.old (hI.fin (hD 14 (by decide)))
  · exact ⟨hsz, hdf, (fun _ _ => rfl), (fun _ _ _ h => by cases h), (fun _ _ _ h => by cases h), Or.inr (Or.inr (Or.inr ⟨rfl, rfl, rfl, rfl, (Below.refl _ _).drew⟩))⟩

set_option maxRecDepth 100000 in
set_option maxHeartbeats 2000000 in
theorem save_quo {O : Nat → Option Obj} {E : EB} {w0 w3 : World} {p l g n cap st id : Nat} {S : RS} {ls : List ByteArray} {LV : Value} {xx : ByteArray} {a : Act} {Q : Exit → Act → World → Prop} (h3 : Rd O E w0 p S w3) (hl : LsA O w0.heap.size l LV ls w3)
    (HQ : ∀ w' : World, w3.heap.size ≤ w'.heap.size → (∀ k, k < w3.heap.size → LV.ownBlock ≠ some k → w'.heap[k]? = w3.heap[k]?) → w'.cell? ⟨l, 0, none⟩ = some LV ∧ w'.cell? ⟨p, 1, none⟩ = some (.slice (some ⟨g, 0, none⟩) n cap) ∧
      (convert 22 9 (.slice (some ⟨g, st, none⟩) (n - st) (cap - st))).run Tryd.prog w' = .ok (.string xx) w')
    (hst : st < n) (hlc : n ≤ cap) (hcm : cap ≤ maxLen) (hls : ls.length ≤ 4294967296) (hsz : a.tmps.size = 96) (hdf : a.defers = []) (h00 : a.tmps[0]? = some (.pointer (some ⟨p, 0, none⟩))) (h01 : a.tmps[1]? = some (.pointer (some ⟨l, 0, none⟩))) (hst0 : a.tmps[5]? = some (.int .i64 (st : Nat)))
    (hK : ∀ b w', b.tmps.size = 96 → b.defers = [] → (∀ s, (s < 68 ∨ 68+13 < s) → b.tmps[s]? = a.tmps[s]?) → RdL E w0 p l S (ls ++ [xx]) w' → Q .normal b w') :
    Code.wp Tryd.prog (.region id ops16 true) Q a w3 := by
  conv => arg 2; arg 2; whnf
  have hci : ¬ cap = st := by omega
  have hi0 : (0 : Int) ≤ (st : Int) := by omega
  have hi1 : (st : Int) ≤ (n : Int) := by omega
  unfold maxLen at hcm
  obtain ⟨i0, hi2, hz0, hz1, hz2⟩ := info_parts str_info
  refine wp_region_inv2 (SInv 68 (svals p l g n cap st w3.heap.size LV xx) a.tmps ls.length w3 (fun w' => RdL E w0 p l S (ls ++ [xx]) w') (fun g5 cap5 w' => ∃ w1, Below w3.heap.size w3 w1 ∧ w'.ownsRow w0.heap.size 9 1 (.slice (some ⟨g5, 0, none⟩) (ls.length + 1) cap5) (ls.length + 1) (sv ls ++ [.string xx]) ∧ w1.grownBy w' LV.ownBlock ∧ (LV.ownBlock = some g5 ∨ g5 = w1.heap.size)) xx) (by kernel_rfl) ?_ ?_ ?_ ?_
  · exact ordOk2.out (by kernel_rfl)
  · intro D a w' i o ho hD hpre hI
    have hi15 : i < 15 := (Array.getElem?_eq_some_iff.1 ho).1
    have hdep : ∀ y, (i, y) ∈ sdeps → D y = true := by
      obtain rfl | rfl | rfl | rfl | rfl | rfl | rfl | rfl | rfl | rfl | rfl | rfl | rfl | rfl | rfl : i = 0 ∨ i = 1 ∨ i = 2 ∨ i = 3 ∨ i = 4 ∨ i = 5 ∨ i = 6 ∨ i = 7 ∨ i = 8 ∨ i = 9 ∨ i = 10 ∨ i = 11 ∨ i = 12 ∨ i = 13 ∨ i = 14 := by omega
      all_goals
        obtain rfl : _ = o := Option.some.inj ho
        intro y hy
        simp [sdeps] at hy
        try (subst hy; exact hpre ⟨_, .data⟩ (by simp) rfl)
        try (rcases hy with rfl | rfl <;> exact hpre ⟨_, .data⟩ (by simp) rfl)
    obtain rfl | rfl | rfl | rfl | rfl | rfl | rfl | rfl | rfl | rfl | rfl | rfl | rfl | rfl | rfl : i = 0 ∨ i = 1 ∨ i = 2 ∨ i = 3 ∨ i = 4 ∨ i = 5 ∨ i = 6 ∨ i = 7 ∨ i = 8 ∨ i = 9 ∨ i = 10 ∨ i = 11 ∨ i = 12 ∨ i = 13 ∨ i = 14 := by omega
    all_goals obtain rfl : _ = o := Option.some.inj ho
    · refine step_of (v := .pointer (some ⟨l, 0, none⟩)) (w' := w') rfl rfl (fun ρ hρ => ?_) (hI.val (k := 0) (by decide) (by decide) (by decide) rfl hdep)
      have e := hρ 1 _ ((hI.old 1 (by decide)).trans h01)
      clear hρ hpre hI hdep
      go_simp
    · refine step_of (v := .pointer (some ⟨l, 0, none⟩)) (w' := w') rfl rfl (fun ρ hρ => ?_) (hI.val (k := 1) (by decide) (by decide) (by decide) rfl hdep)
      have e := hρ 1 _ ((hI.old 1 (by decide)).trans h01)
      clear hρ hpre hI hdep
      go_simp
    · have u1 : a.tmps[69]? = some (.pointer (some ⟨l, 0, none⟩)) := hI.left 1 (by decide) (by decide) (hpre ⟨1, .data⟩ (by simp) rfl)
      refine step_of (v := .pointer (some ⟨l, 0, none⟩)) (w' := w') rfl rfl (fun ρ hρ => ?_) (hI.val (k := 2) (by decide) (by decide) (by decide) rfl hdep)
      have e1 := hρ 69 _ u1
      clear hρ hpre hI hdep
      go_simp
    · have u2 : a.tmps[70]? = some (.pointer (some ⟨l, 0, none⟩)) := hI.left 2 (by decide) (by decide) (hpre ⟨2, .data⟩ (by simp) rfl)
      obtain ⟨q1, q2, q3⟩ := hI.facts HQ (hI.cl 12 3 (by decide)) hD
      refine step_of (v := LV) (w' := w') rfl rfl (fun ρ hρ => ?_) (hI.val (k := 3) (by decide) (by decide) (by decide) rfl hdep)
      have e2 := hρ 70 _ u2
      clear hρ hpre hI hdep
      go_simp
    · refine step_of (v := .pointer (some ⟨p, 0, none⟩)) (w' := w') rfl rfl (fun ρ hρ => ?_) (hI.val (k := 4) (by decide) (by decide) (by decide) rfl hdep)
      have e := hρ 0 _ ((hI.old 0 (by decide)).trans h00)
      clear hρ hpre hI hdep
      go_simp
    · have u4 : a.tmps[72]? = some (.pointer (some ⟨p, 0, none⟩)) := hI.left 4 (by decide) (by decide) (hpre ⟨4, .data⟩ (by simp) rfl)
      refine step_of (v := .pointer (some ⟨p, 0, none⟩)) (w' := w') rfl rfl (fun ρ hρ => ?_) (hI.val (k := 5) (by decide) (by decide) (by decide) rfl hdep)
      have e4 := hρ 72 _ u4
      clear hρ hpre hI hdep
      go_simp
    · have u5 : a.tmps[73]? = some (.pointer (some ⟨p, 0, none⟩)) := hI.left 5 (by decide) (by decide) (hpre ⟨5, .data⟩ (by simp) rfl)
      refine step_of (v := .pointer (some ⟨p, 1, none⟩)) (w' := w') rfl rfl (fun ρ hρ => ?_) (hI.val (k := 6) (by decide) (by decide) (by decide) rfl hdep)
      have e5 := hρ 73 _ u5
      clear hρ hpre hI hdep
      go_simp
    · have u6 : a.tmps[74]? = some (.pointer (some ⟨p, 1, none⟩)) := hI.left 6 (by decide) (by decide) (hpre ⟨6, .data⟩ (by simp) rfl)
      obtain ⟨q1, q2, q3⟩ := hI.facts HQ (fun h => hI.cl 9 7 (by decide) (hI.cl 10 9 (by decide) (hI.cl 11 10 (by decide) (hI.cl 12 11 (by decide) h)))) hD
      refine step_of (v := .slice (some ⟨g, 0, none⟩) n cap) (w' := w') rfl rfl (fun ρ hρ => ?_) (hI.val (k := 7) (by decide) (by decide) (by decide) rfl hdep)
      have e6 := hρ 74 _ u6
      clear hρ hpre hI hdep
      go_simp
    · refine step_of (v := .int .i64 (st : Nat)) (w' := w') rfl rfl (fun ρ hρ => ?_) (hI.val (k := 8) (by decide) (by decide) (by decide) rfl hdep)
      have e := hρ 5 _ ((hI.old 5 (by decide)).trans hst0)
      clear hρ hpre hI hdep
      go_simp
    · have u7 : a.tmps[75]? = some (.slice (some ⟨g, 0, none⟩) n cap) := hI.left 7 (by decide) (by decide) (hpre ⟨7, .data⟩ (by simp) rfl)
      have u8 : a.tmps[76]? = some (.int .i64 (st : Nat)) := hI.left 8 (by decide) (by decide) (hpre ⟨8, .data⟩ (by simp) rfl)
      refine step_of (v := .slice (some ⟨g, st, none⟩) (n - st) (cap - st)) (w' := w') rfl rfl (fun ρ hρ => ?_) (hI.val (k := 9) (by decide) (by decide) (by decide) rfl hdep)
      have e7 := hρ 75 _ u7
      have e8 := hρ 76 _ u8
      clear hρ hpre hI hdep
      go_simp
    · have u9 : a.tmps[77]? = some (.slice (some ⟨g, st, none⟩) (n - st) (cap - st)) := hI.left 9 (by decide) (by decide) (hpre ⟨9, .data⟩ (by simp) rfl)
      obtain ⟨q1, q2, q3⟩ := hI.facts HQ (fun h => hI.cl 11 10 (by decide) (hI.cl 12 11 (by decide) h)) hD
      refine step_of (v := .string xx) (w' := w') rfl rfl (fun ρ hρ => ?_) (hI.val (k := 10) (by decide) (by decide) (by decide) rfl hdep)
      have e9 := hρ 77 _ u9
      clear hρ hpre hI hdep
      go_simp
    · have u10 : a.tmps[78]? = some (.string xx) := hI.left 10 (by decide) (by decide) (hpre ⟨10, .data⟩ (by simp) rfl)
      have hph := hI.fresh (hI.cl 12 11 (by decide)) hD
      have hz := hph.1
      refine step_of (v := .slice (some ⟨w'.heap.size, 0, none⟩) 1 1) (w' := w'.alloc (.cells #[.string xx] 9)) rfl rfl (fun ρ hρ => ?_) (hI.made (by rw [hz]; rfl) hdep hD)
      have e10 := hρ 78 _ u10
      clear hρ hpre hI hdep hph hz
      go_simp
    · have d11 : D 11 = true := hpre ⟨11, .data⟩ (by simp) rfl
      have d3 : D 3 = true := hpre ⟨3, .data⟩ (by simp) rfl
      have u3 : a.tmps[71]? = some LV := hI.left 3 (by decide) (by decide) d3
      have u11 : a.tmps[79]? = some (.slice (some ⟨w3.heap.size, 0, none⟩) 1 1) := hI.left 11 (by decide) (by decide) d11
      obtain ⟨hz, hbel, hrow⟩ := hI.laid d11 hD
      obtain ⟨g5, cap5, w5, hrun, hown, hgrow, hat, hlt⟩ := run_append_lies (P := Tryd.prog) w' 23 23 w0.heap.size 9 i0 (.string ByteArray.empty) 1 16 Tryd.underlying23 hi2 hz0 hz1 hz2 rfl (by decide) LV ls.length (sv ls) (ownsRow_keep hl.own (fun k hk => hbel.block k (own_lt hl.own k hk).2)) ⟨w3.heap.size, 0, none⟩ 1 1 [.string xx] rfl (World.news_of_block (cs := #[.string xx]) hrow) (fun u hu => by rw [List.mem_singleton] at hu; subst hu; rfl) (by decide) (by unfold maxLen; omega) (by omega) (by have := h3.size; omega) _ rfl
      refine step_of (v := .slice (some ⟨g5, 0, none⟩) (ls.length + 1) cap5) (w' := w5) rfl rfl (fun ρ hρ => ?_) (hI.app hdep hD ⟨w', hbel, hown, hgrow, hat⟩)
      exact run_append_op (.tmp 71) (.tmp 79) 23 rfl (hρ 71 _ u3) (hρ 79 _ u11) hrun
    · have u0 : a.tmps[68]? = some (.pointer (some ⟨l, 0, none⟩)) := hI.left 0 (by decide) (by decide) (hpre ⟨0, .data⟩ (by simp) rfl)
      refine step_of (v := .pointer (some ⟨l, 0, none⟩)) (w' := w') rfl rfl (fun ρ hρ => ?_) (hI.val (k := 13) (by decide) (by decide) (by decide) rfl hdep)
      have e0 := hρ 68 _ u0
      clear hρ hpre hI hdep
      go_simp
    · have d12 : D 12 = true := hpre ⟨12, .data⟩ (by simp) rfl
      have u13 : a.tmps[81]? = some (.pointer (some ⟨l, 0, none⟩)) := hI.left 13 (by decide) (by decide) (hpre ⟨13, .data⟩ (by simp) rfl)
      obtain ⟨g5, cap5, u12, w1, hbel, hown, hgrow, hat⟩ := hI.grown d12 hD
      have hll : l < w3.heap.size := row_lt (h3.obj hl.lcell)
      have hl5 := (hgrow.block l (by have := hbel.size; omega) (fun e => hl.lne e.symm)).trans ((hbel.block l hll).trans (h3.obj hl.lcell))
      have g1 : w'.frozen? ⟨l, 0, none⟩ = false := row_thaw hl5 0
      have g2 : w'.cell? ⟨l, 0, none⟩ = some LV := cells_row hl5 0
      refine step_skip (w' := w'.setCell ⟨l, 0, none⟩ (.slice (some ⟨g5, 0, none⟩) (ls.length + 1) cap5)) rfl rfl (fun ρ hρ => ?_) (hI.stored hdep (RdL.grow h3 hl hbel hown hgrow hat))
      refine run_store_op (x := .tmp 81) (y := .tmp 80) rfl (hρ 81 _ u13) (hρ 80 _ u12) ?_
      clear hρ hpre hI hdep u12 u13 hl5 hbel hown hgrow hat
      go_simp
  · intro D a w' hD hI
    exact hK a w' hI.size hI.defers hI.old (hI.fin (hD 14 (by decide)))
  · exact ⟨hsz, hdf, (fun _ _ => rfl), (fun _ _ _ h => by cases h), (fun _ _ _ h => by cases h), Or.inr (Or.inr (Or.inr ⟨rfl, rfl, rfl, rfl, (Below.refl _ _).drew⟩))⟩
end Go.Proofs.YtgplcbobomainaaDoor.GI
