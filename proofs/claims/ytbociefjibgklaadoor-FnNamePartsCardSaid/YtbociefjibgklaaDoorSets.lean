/-
  A package-level map from texts to true: what a look-up in it answers.
-/
import Derived.Test.YtbociefjibgklaaDoorRows
import Derived.Test.YtbociefjibgklaaDoorBas
import Derived.LaidMore
import Derived.OpenShut
import Derived.StringKeys
import Derived.WideKeyElems2
import Derived.WideKeyArgs2
import Derived.ProofKit
namespace Go.Proofs.YtbociefjibgklaaDoor
open Go.RowKit Go.ChangeShapes Go.WideShapes Go.ChangeAt Go.WideMaps Go.WideElems
set_option linter.unusedVariables false
set_option linter.unusedSimpArgs false

def setD {H : Type} (ks : List (List UInt8)) : DataW H := .map (ks.map fun k => (.string k, .lit (.bool true)))
theorem atKey_set {H : Type} (ks : List (List UInt8)) (s : List UInt8) : (setD ks : DataW H).atKey (.string s) .nil = if ks.contains s then .lit (.bool true) else .nil := by
  unfold setD DataW.atKey
  simp only
  induction ks with
  | nil => simp
  | cons k r ih =>
    rw [List.map_cons, List.find?_cons]
    by_cases hk : k = s
    · subst hk; simp [Lit.sameKey]
    · have h1 : (Lit.string k).sameKey (.string s) = false := by simp [Lit.sameKey, hk]
      have h2 : (s == k) = false := by simp; exact fun e => hk e.symm
      simp only [h1]
      rw [ih, List.contains_cons, h2, Bool.false_or]

theorem elemAt_bool {H : Type} {enc : TypeId × Value → H} {P : Program} {base : Nat} {held : Bool} {e : TypeId} (he : P.underlying e = some .bool) {W : World} {sp : Nat → Bool} {n : Nat} {v : Value} {z : DataW H × List MemPlace} (h : elemAt enc P W base sp held n e v = some z) : ∃ b, v = .bool b ∧ z = (.lit (.bool b), []) := by
  unfold elemAt at h
  split at h
  · rename_i hf
    obtain ⟨b, hc, hz⟩ := DataW.trod_bool he h
    cases v <;> simp [Value.formed, he, Value.cells] at hf hc
    subst hc
    exact ⟨_, rfl, hz⟩
  · cases h

/-- Variable g is a map that answers true at just these texts. -/
def MapIs (w : World) (g : Nat) (ks : List (List UInt8)) : Prop :=
  ∃ bm, w.cell? ⟨g, 0, none⟩ = some (.map (some bm)) ∧ g < w.heap.size ∧ ∀ wx, Below w.heap.size w wx → ∀ s : ByteArray, s.size ≤ maxLen →
    (Instr.lookup 44 (.map (some bm)) (.string s) false).run Tryd.prog wx = .ok (.bool (ks.contains s.data.toList)) wx
theorem MapIs.below {w w' : World} {g : Nat} {ks : List (List UInt8)} (h : MapIs w g ks) (hb : Below w.heap.size w w') : MapIs w' g ks := by
  obtain ⟨bm, hc, hg, hl⟩ := h
  exact ⟨bm, (hb.cell (p := ⟨g, 0, none⟩) hg).trans hc, Nat.lt_of_lt_of_le hg hb.size, fun wx hx s hs => hl wx (hb.trans (hx.mono hb.size)) s hs⟩

theorem bool_zero (w : World) : (zeroValue 4).run Tryd.prog w = .ok (.bool false) w := by kernel_rfl

theorem mapIs_of {W : World} {g : Nat} {ks : List (List UInt8)} {cs : Array Value} {fuel : Nat} {p : List MemPlace} {base : Nat} {sp : Nat → Bool} {enc : TypeId × Value → Unit}
    (hd : DataW.trod enc Tryd.prog W base sp false fuel 44 cs.toList = some (setD ks, p)) (hc : W.cell? ⟨g, 0, none⟩ = cs[0]?) : MapIs W g ks := by
  have law : KeyLaw Tryd.prog 9 := string_law Tryd.underlying9
  rcases open_map Tryd.underlying44 hd with ⟨_, hx⟩ | ⟨bm, es, clock, m, rfl, hcs, hb, _, F, hx⟩
  · simp [setD] at hx
  simp only [Prod.mk.injEq] at hx
  have hcell : W.cell? ⟨g, 0, none⟩ = some (.map (some bm)) := by
    rw [hc, Array.eq_one_of_toList hcs]; rfl
  refine ⟨bm, hcell, World.block_lt_of_cell? W _ hcell, fun wx hbx s hs => ?_⟩
  have hbm : bm < W.heap.size := (Array.getElem?_eq_some_iff.1 hb).1
  have hb' : wx.heap[bm]? = some (.map es clock) := (hbx.block bm hbm).trans hb
  have hset := atKey_set (H := Unit) ks s.data.toList
  rcases fit_lookup (w := wx) law Tryd.underlying44 (bool_zero wx) hb' F (keyOf_string_mk (s := s) Tryd.underlying9 hs) with ⟨hrun, hat⟩ | ⟨v, y, hrun, hRv, hat, _⟩
  · have h1 := hat .nil
    rw [← hx.1, hset] at h1
    split at h1
    · cases h1
    · rename_i hn
      rw [hrun, show ks.contains s.data.toList = false by simpa using hn]
  · obtain ⟨b, rfl, rfl⟩ := elemAt_bool Tryd.underlying4 hRv
    have h1 := hat .nil
    rw [← hx.1, hset] at h1
    split at h1
    · rename_i hy
      injection h1 with h1
      injection h1 with h1
      rw [hrun, ← h1, show ks.contains s.data.toList = true by simpa using hy]
    · cases h1

end Go.Proofs.YtbociefjibgklaaDoor
