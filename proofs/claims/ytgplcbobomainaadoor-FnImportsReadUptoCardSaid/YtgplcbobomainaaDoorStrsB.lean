/-
  A slice of strings that reads as a list.
-/
import Derived.Below
import Derived.WalkKit
import Derived.Laws.OwnMore
import Derived.Laws.Rows
import Derived.Deep.Draws
namespace Go.Proofs.YtgplcbobomainaaDoor
open Go.RowKit
set_option linter.unusedVariables false
set_option linter.unusedSimpArgs false

def Strs (w : World) (A : Option Addr) (ss : List ByteArray) : Prop :=
  (∀ s ∈ ss, s.size ≤ maxLen) ∧ (0 < ss.length → ∃ b off, A = some ⟨b, off, none⟩ ∧ b < w.heap.size ∧ ∀ i (h : i < ss.length), w.cell? ⟨b, off + i, none⟩ = some (.string ss[i]))

theorem Strs.below {w w' : World} {A : Option Addr} {ss : List ByteArray} (h : Strs w A ss) (hb : Below w.heap.size w w') : Strs w' A ss :=
  ⟨h.1, fun hp => by
    obtain ⟨b, off, e, hlt, hc⟩ := h.2 hp
    exact ⟨b, off, e, Nat.lt_of_lt_of_le hlt hb.size, fun i hi => (hb.cell (p := ⟨b, off + i, none⟩) hlt).trans (hc i hi)⟩⟩
theorem Strs.drewN {w : World} {A : Option Addr} {ss : List ByteArray} (h : Strs w A ss) (n : Nat) : Strs (w.drewN n) A ss := h
theorem Strs.takeN {w : World} {A : Option Addr} {ss : List ByteArray} (h : Strs w A ss) (n : Nat) : Strs w A (ss.take n) :=
  ⟨fun s hs => h.1 s (List.mem_of_mem_take hs), fun hp => by
    have hl : (ss.take n).length ≤ ss.length := by simp; omega
    obtain ⟨b, off, e, hlt, hc⟩ := h.2 (by omega)
    exact ⟨b, off, e, hlt, fun i hi => by rw [hc i (by omega)]; simp⟩⟩


theorem Strs.newRow (w : World) (t : TypeId) (ss : List ByteArray) (p : Nat × Nat) (cs : Array Value) (h : cs = (ss.map Value.string).toArray) (hm : ∀ s ∈ ss, s.size ≤ maxLen) : Strs (w.alloc (.cells cs t p)) (some ⟨w.heap.size, 0, none⟩) ss := by
  subst h
  refine ⟨hm, fun _ => ⟨_, _, rfl, by simp, fun i hi => ?_⟩⟩
  rw [Nat.zero_add]
  have e : (w.alloc (.cells (ss.map Value.string).toArray t p)).heap[w.heap.size]? = some (.cells (ss.map Value.string).toArray t p) := heap_alloc_new w _
  rw [cell_of_row _ _ i _ t p e]
  simp [hi]

end Go.Proofs.YtgplcbobomainaaDoor
