/-
  A slice of ints among the arguments reads as a list.
-/
import Derived.Below
import Derived.WalkKit
import Derived.ProofKit
import Derived.OpenShut
namespace Go.Proofs.YtgplcbobomainaaDoor
open Go.RowKit Go.ChangeShapes Go.WideShapes
set_option linter.unusedVariables false
set_option linter.unusedSimpArgs false

def Ints (k : IntKind) (w : World) (A : Option Addr) (zs : List Int) : Prop :=
  (∀ z ∈ zs, (Lit.int k z).wf = true) ∧ (0 < zs.length → ∃ b off, A = some ⟨b, off, none⟩ ∧ b < w.heap.size ∧ ∀ i (h : i < zs.length), w.cell? ⟨b, off + i, none⟩ = some (.int k zs[i]))
theorem Ints.below {k : IntKind} {w w' : World} {A : Option Addr} {zs : List Int} (h : Ints k w A zs) (hb : Below w.heap.size w w') : Ints k w' A zs :=
  ⟨h.1, fun hp => by
    obtain ⟨b, off, e, hlt, hc⟩ := h.2 hp
    exact ⟨b, off, e, Nat.lt_of_lt_of_le hlt hb.size, fun i hi => (hb.cell (p := ⟨b, off + i, none⟩) hlt).trans (hc i hi)⟩⟩

theorem ints_of_trod {H : Type} {enc : TypeId × Value → H} {P : Program} {W : World} {t e : TypeId} {held : Bool} {fuel : Nat} {a : Option Addr} {len cap : Nat} {d : DataW H} {p : List MemPlace} {k : IntKind} (ht : P.underlying t = some (.slice e)) (he : P.underlying e = some (.int k)) (hc : P.cellsOf e = 1)
    (h : DataW.trod enc P W 0 (fun _ => true) held fuel t [.slice a len cap] = some (d, p)) (hlt : ∀ x ∈ p, x.block < W.heap.size) :
    ∃ zs : List Int, len = zs.length ∧ Ints k W a zs ∧ zs.length ≤ cap ∧ cap ≤ maxLen := by
  rcases open_ints ht he hc h with ⟨hcs, _⟩ | ⟨x, l, c, zs, hcs, _, hl, hm, hz, hx, hcell, hwz⟩
  · simp at hcs
    obtain ⟨rfl, rfl, rfl⟩ := hcs
    exact ⟨[], rfl, ⟨by simp, fun h => by simp at h⟩, by simp, by decide⟩
  · simp at hcs
    obtain ⟨rfl, rfl, rfl⟩ := hcs
    simp at hz
    refine ⟨zs.take len, by simp; omega, ⟨fun s hs => hwz s (List.mem_of_mem_take hs), fun hp => ?_⟩, by simp; omega, hm⟩
    have hp' : 0 < zs.length := by rw [List.length_take] at hp; omega
    obtain ⟨b, off, spot⟩ := x
    have hspot : spot = none := by simpa [Addr.add] using World.cell?_spot (hcell 0 hp')
    subst hspot
    refine ⟨b, off, rfl, ?_, fun i hi => ?_⟩
    · injection hx with _ hpl
      subst hpl
      have := hlt (.cell b (off + 0)) (by unfold MemPlace.row; exact List.mem_map.2 ⟨0, List.mem_range.2 hp', rfl⟩)
      exact this
    · have hi' : i < zs.length := by rw [List.length_take] at hi; omega
      have := hcell i hi'
      rw [Go.WideShapes.add_plain] at this
      rw [this]
      simp [List.getD_eq_getElem?_getD, hi']

end Go.Proofs.YtgplcbobomainaaDoor
