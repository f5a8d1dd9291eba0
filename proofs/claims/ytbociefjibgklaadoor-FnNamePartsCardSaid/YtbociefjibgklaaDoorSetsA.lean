/-
  The three maps of package syslist that the names' laws read.
-/
import Derived.Test.YtbociefjibgklaaDoorNameA
namespace Go.Proofs.YtbociefjibgklaaDoor
open Go.RowKit
set_option linter.unusedVariables false

structure AllIs (w : World) : Prop where
  unix : UnixIs w
  os : MapIs w 1 osKeys
  ar : MapIs w 2 arKeys
theorem AllIs.below {w w' : World} (h : AllIs w) (hb : Below w.heap.size w w') : AllIs w' := ⟨h.unix.below hb, MapIs.below h.os hb, MapIs.below h.ar hb⟩

theorem contains_of_all {l m : List (List UInt8)} (h : (l.all fun a => m.contains a) = true ∧ (m.all fun a => l.contains a) = true) (k : List UInt8) : l.contains k = m.contains k := by
  rw [Bool.eq_iff_iff, List.contains_iff_mem, List.contains_iff_mem]
  have h1 := List.all_eq_true.1 h.1
  have h2 := List.all_eq_true.1 h.2
  exact ⟨fun hk => List.contains_iff_mem.1 (h1 k hk), fun hk => List.contains_iff_mem.1 (h2 k hk)⟩
theorem MapIs.same {w : World} {g : Nat} {l m : List (List UInt8)} (h : MapIs w g l) (hs : (l.all fun a => m.contains a) = true ∧ (m.all fun a => l.contains a) = true) : MapIs w g m := by
  obtain ⟨bm, hc, hg, hl⟩ := h
  exact ⟨bm, hc, hg, fun wx hx s hs' => by rw [hl wx hx s hs', contains_of_all hs]⟩

end Go.Proofs.YtbociefjibgklaaDoor
