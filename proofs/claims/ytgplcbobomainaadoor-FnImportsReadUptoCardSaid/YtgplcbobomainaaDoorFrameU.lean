/-
  A slice of strings among the arguments reads as a list, with its bulk.
-/
import Derived.Test.YtgplcbobomainaaDoorRows
import Derived.Test.YtgplcbobomainaaDoorFrame
import Derived.Test.YtgplcbobomainaaDoorPlain
namespace Go.Proofs.YtgplcbobomainaaDoor
open Go.RowKit Go.ChangeShapes Go.WideShapes
set_option linter.unusedVariables false
set_option linter.unusedSimpArgs false

theorem bulk_all {H : Type} (ss : List ByteArray) : Rows.uptoBulkAll (H := H) (strs ss) = (ss.map fun s => s.size + 1).sum := by
  induction ss with
  | nil => rfl
  | cons s r ih =>
    unfold strs at ih ⊢
    rw [List.map_cons, List.map_cons, List.sum_cons, Rows.uptoBulkAll, ih, Rows.uptoBulk, size_list]
theorem bulk_strs {H : Type} {d : DataW H} {p q : List MemPlace} {ss : List ByteArray} {len : Nat} (h : (d, p) = (.slice (strs (ss.take len)) (strs (ss.drop len)), q)) : ((ss.take len).map fun s => s.size + 1).sum ≤ Rows.uptoBulk d := by
  injection h with h1 _
  subst h1
  rw [Rows.uptoBulk, bulk_all]
  omega

theorem strs_of_trodU {H : Type} {enc : TypeId × Value → H} {P : Program} {W : World} {t e : TypeId} {held : Bool} {fuel : Nat} {a : Option Addr} {len cap : Nat} {d : DataW H} {p : List MemPlace} (ht : P.underlying t = some (.slice e)) (he : P.underlying e = some .string) (hc : P.cellsOf e = 1)
    (h : DataW.trod enc P W 0 (fun _ => true) held fuel t [.slice a len cap] = some (d, p)) (hlt : ∀ x ∈ p, x.block < W.heap.size) :
    ∃ ss : List ByteArray, len = ss.length ∧ Strs W a ss ∧ ss.length ≤ cap ∧ cap ≤ maxLen ∧ (ss.map fun s => s.size + 1).sum ≤ Rows.uptoBulk d := by
  rcases open_strings ht he hc h with ⟨hcs, hx⟩ | ⟨x, l, c, ss, hcs, _, hl, hm, hz, hx, hcell, hwz⟩
  · simp at hcs
    obtain ⟨rfl, rfl, rfl⟩ := hcs
    exact ⟨[], rfl, ⟨by simp, fun h => by simp at h⟩, by simp, by decide, by simp⟩
  · simp at hcs
    obtain ⟨rfl, rfl, rfl⟩ := hcs
    simp at hz
    refine ⟨ss.take len, by simp; omega, ⟨fun s hs => hwz s (List.mem_of_mem_take hs), fun hp => ?_⟩, by simp; omega, hm, bulk_strs hx⟩
    have hp' : 0 < ss.length := by rw [List.length_take] at hp; omega
    obtain ⟨b, off, spot⟩ := x
    have hspot : spot = none := by simpa [Addr.add] using World.cell?_spot (hcell 0 hp')
    subst hspot
    refine ⟨b, off, rfl, ?_, fun i hi => ?_⟩
    · injection hx with _ hpl
      subst hpl
      have := hlt (.cell b (off + 0)) (by unfold MemPlace.row; exact List.mem_map.2 ⟨0, List.mem_range.2 hp', rfl⟩)
      exact this
    · have hi' : i < ss.length := by rw [List.length_take] at hi; omega
      have := hcell i hi'
      rw [Go.WideShapes.add_plain] at this
      rw [this]
      simp [List.getD_eq_getElem?_getD, hi']

end Go.Proofs.YtgplcbobomainaaDoor
