/-
  A slice of strings that the call itself has made.
-/
import Derived.Test.YtgplcbobomainaaDoorBas
import Derived.Test.YtgplcbobomainaaDoorStrsB
namespace Go.Proofs.YtgplcbobomainaaDoor
open Go.RowKit
set_option linter.unusedVariables false
set_option linter.unusedSimpArgs false

/-- Strings as cells. -/
def sv (ss : List ByteArray) : List Value := ss.map Value.string
theorem sv_len (ss : List ByteArray) : (sv ss).length = ss.length := by unfold sv; simp
theorem str_info : (Tryd.prog.info? 9).map (fun i => (i.zero, i.size, i.bytes)) = some (some (.string ByteArray.empty), 1, 16) := by kernel_rfl
theorem reads_one (w : World) (t : TypeId) (v : Value) : Reads (w.alloc (.cells #[v] t)) (w.heap.size + 1) 1 (some ⟨w.heap.size, 0, none⟩) 1 [v] := by
  refine ⟨rfl, fun _ => ⟨_, rfl, by simp, fun j u hu => ?_⟩⟩
  have hj : j = 0 := by
    have := (List.getElem?_eq_some_iff.1 hu).1
    simpa using this
  subst hj
  have e : (w.alloc (.cells #[v] t)).heap[w.heap.size]? = some (.cells #[v] t (0, 0)) := heap_alloc_new w _
  rw [Go.WideShapes.add_plain, cell_of_row _ _ _ _ t (0, 0) e]
  simpa using hu
theorem sv_one (x : ByteArray) : ∀ u ∈ [Value.string x], u.oneCell' = true := by
  intro u hu; rw [List.mem_singleton] at hu; subst hu; rfl

/-- A slice of strings of the call's own, not nil, that holds some texts. -/
def SplitPost (w : World) (pieces : List (List UInt8)) (e : Ending) (w' : World) : Prop :=
  ∃ (g cap : Nat) (ss : List ByteArray), e = .returned (.slice (some ⟨g, 0, none⟩) ss.length cap) ∧ (ss.map fun s => s.data.toList) = pieces ∧ w'.ownsRow w.heap.size 9 1 (.slice (some ⟨g, 0, none⟩) ss.length cap) ss.length (sv ss) ∧ Below w.heap.size w w'

theorem own_strs {w : World} {base : Nat} {g cap : Nat} {e : TypeId} {ss : List ByteArray} (h : w.ownsRow base e 1 (.slice (some ⟨g, 0, none⟩) ss.length cap) ss.length (sv ss)) (hm : ∀ s ∈ ss, s.size ≤ maxLen) : Strs w (some ⟨g, 0, none⟩) ss := by
  have hlt := (World.ownsRow.lt h g rfl).2
  refine ⟨hm, fun hp => ⟨g, 0, rfl, hlt, fun i hi => ?_⟩⟩
  rw [Nat.zero_add, World.ownsRow.cellAt h i (by omega)]
  simp [sv, hi]
theorem own_form {w : World} {base n : Nat} {e : TypeId} {v : Value} {xs : List Value} (h : w.ownsRow base e 1 v n xs) (hn : 0 < n) : ∃ g cap, v = .slice (some ⟨g, 0, none⟩) n cap ∧ n ≤ cap ∧ cap ≤ maxLen ∧ base ≤ g ∧ g < w.heap.size := by
  rcases h.2 with ⟨rfl, h0⟩ | ⟨g, cap, cur, rfl, hb, hg, hnc, hcm, _⟩
  · omega
  · exact ⟨g, cap, rfl, hnc, hcm, hb, (Array.getElem?_eq_some_iff.1 hg).1⟩

theorem own_none (w : World) (t : TypeId) : (w.alloc (.cells #[] t)).ownsRow w.heap.size t 1 (.slice (some ⟨w.heap.size, 0, none⟩) 0 0) 0 (sv []) :=
  ⟨rfl, .inr ⟨w.heap.size, 0, #[], rfl, Nat.le_refl _, heap_alloc_new w _, Nat.le_refl _, by decide, rfl, rfl⟩⟩

end Go.Proofs.YtgplcbobomainaaDoor
