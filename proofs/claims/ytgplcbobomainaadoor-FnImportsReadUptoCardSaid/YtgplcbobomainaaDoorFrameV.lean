/-
  A slice of ints among the arguments reads as a list, with its bulk.
-/
import Derived.Test.YtgplcbobomainaaDoorFrameU
import Derived.Test.YtgplcbobomainaaDoorInts
namespace Go.Proofs.YtgplcbobomainaaDoor
open Go.RowKit Go.ChangeShapes Go.WideShapes
set_option linter.unusedVariables false
set_option linter.unusedSimpArgs false

theorem bulk_lits {H : Type} (k : IntKind) (zs : List Int) : Rows.uptoBulkAll (H := H) (lits k zs) = zs.length := by
  induction zs with
  | nil => rfl
  | cons z r ih =>
    unfold lits at ih ⊢
    rw [List.map_cons, Rows.uptoBulkAll, ih, Rows.uptoBulk, List.length_cons]
    · omega
    · intro b e; cases e
theorem bulk_ints {H : Type} {d : DataW H} {p q : List MemPlace} {k : IntKind} {zs : List Int} {len : Nat} (h : (d, p) = (.slice (lits k (zs.take len)) (lits k (zs.drop len)), q)) : (zs.take len).length ≤ Rows.uptoBulk d := by
  injection h with h1 _
  subst h1
  rw [Rows.uptoBulk, bulk_lits]
  omega
theorem ints_of_trodU {H : Type} {enc : TypeId × Value → H} {P : Program} {W : World} {t e : TypeId} {held : Bool} {fuel : Nat} {a : Option Addr} {len cap : Nat} {d : DataW H} {p : List MemPlace} {k : IntKind} (ht : P.underlying t = some (.slice e)) (he : P.underlying e = some (.int k)) (hc : P.cellsOf e = 1)
    (h : DataW.trod enc P W 0 (fun _ => true) held fuel t [.slice a len cap] = some (d, p)) (hlt : ∀ x ∈ p, x.block < W.heap.size) :
    ∃ zs : List Int, len = zs.length ∧ Ints k W a zs ∧ zs.length ≤ cap ∧ cap ≤ maxLen ∧ zs.length ≤ Rows.uptoBulk d := by
  rcases open_ints ht he hc h with ⟨hcs, _⟩ | ⟨x, l, c, zs, hcs, _, hl, hm, hz, hx, hcell, hwz⟩
  · simp at hcs
    obtain ⟨rfl, rfl, rfl⟩ := hcs
    exact ⟨[], rfl, ⟨by simp, fun h => by simp at h⟩, by simp, by decide, by simp⟩
  · simp at hcs
    obtain ⟨rfl, rfl, rfl⟩ := hcs
    simp at hz
    refine ⟨zs.take len, by simp; omega, ⟨fun s hs => hwz s (List.mem_of_mem_take hs), fun hp => ?_⟩, by simp; omega, hm, bulk_ints hx⟩
    have hp' : 0 < zs.length := by rw [List.length_take] at hp; omega
    obtain ⟨b, off, spot⟩ := x
    have hspot : spot = none := by simpa [Addr.add] using World.cell?_spot (hcell 0 hp')
    subst hspot
    refine ⟨b, off, rfl, ?_, fun i hi => ?_⟩
    · injection hx with _ hpl
      subst hpl
      have := hlt (.cell b (off + 0)) (by unfold MemPlace.row; exact List.mem_map.2 ⟨0, List.mem_range.2 hp', rfl⟩)
      exact this
    · have hi' : i < zs.length := by rw [List.length_take] at hi; omega
      have := hcell i hi'
      rw [Go.WideShapes.add_plain] at this
      rw [this]
      simp [List.getD_eq_getElem?_getD, hi']
end Go.Proofs.YtgplcbobomainaaDoor
