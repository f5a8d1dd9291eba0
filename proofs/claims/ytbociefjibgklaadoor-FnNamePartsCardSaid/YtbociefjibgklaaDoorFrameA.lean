/-
  The three maps, out of what the rows list.
-/
import Derived.Test.YtbociefjibgklaaDoorFrameS
import Derived.Test.YtbociefjibgklaaDoorSetsA
namespace Go.Proofs.YtbociefjibgklaaDoor
open Go.RowKit Go.ChangeShapes Go.WideShapes Go.ChangeAt
set_option linter.unusedVariables false
set_option linter.unusedSimpArgs false

/-- The texts that a listed map holds. -/
def keysOf : DataW Unit → List (List UInt8)
  | .map es => es.map fun p => match p.1 with | .string s => s | _ => []
  | _ => []
theorem gOS : Tryd.prog.globalNamed "loop.example/pub-g01463/pub/syslist.KnownOS" = some 1 := by kernel_rfl
theorem tOS : (Tryd.prog.globals[1]?).map (·.type) = some 44 := by kernel_rfl
theorem gArch : Tryd.prog.globalNamed "loop.example/pub-g01463/pub/syslist.KnownArch" = some 2 := by kernel_rfl
theorem tArch : (Tryd.prog.globals[2]?).map (·.type) = some 44 := by kernel_rfl
theorem dOS : (Rows.laid_loop_example_pub_g01463_pub_syslist_KnownOS : DataW Unit) = setD (keysOf Rows.laid_loop_example_pub_g01463_pub_syslist_KnownOS) := rfl
theorem dArch : (Rows.laid_loop_example_pub_g01463_pub_syslist_KnownArch : DataW Unit) = setD (keysOf Rows.laid_loop_example_pub_g01463_pub_syslist_KnownArch) := rfl
theorem sOS : ((keysOf Rows.laid_loop_example_pub_g01463_pub_syslist_KnownOS).all fun a => osKeys.contains a) = true ∧ (osKeys.all fun a => (keysOf Rows.laid_loop_example_pub_g01463_pub_syslist_KnownOS).contains a) = true := by decide +kernel
theorem sArch : ((keysOf Rows.laid_loop_example_pub_g01463_pub_syslist_KnownArch).all fun a => arKeys.contains a) = true ∧ (arKeys.all fun a => (keysOf Rows.laid_loop_example_pub_g01463_pub_syslist_KnownArch).contains a) = true := by decide +kernel

theorem all_of_laid {W : World} (h : laidMetH Tryd.prog [("loop.example/pub-g01463/pub/syslist.KnownOS", Rows.laid_loop_example_pub_g01463_pub_syslist_KnownOS), ("loop.example/pub-g01463/pub/syslist.UnixOS", Rows.laid_loop_example_pub_g01463_pub_syslist_UnixOS), ("loop.example/pub-g01463/pub/syslist.KnownArch", Rows.laid_loop_example_pub_g01463_pub_syslist_KnownArch)] W) : AllIs W := by
  rw [MakeChecks.laidMetH_plain _ _ _ (by kernel_rfl)] at h
  obtain ⟨ps, ⟨g0, t0, cs0, f0, p0, q0, hg0, ht0, hv0, hd0, ⟨g1, t1, cs1, f1, p1, q1, hg1, ht1, hv1, hd1, ⟨g2, t2, cs2, f2, p2, q2, hg2, ht2, hv2, hd2, _, _⟩, _⟩, _⟩, _, _⟩ := h
  obtain rfl := Option.some.inj (gOS.symm.trans hg0)
  obtain rfl := Option.some.inj (tOS.symm.trans ht0)
  obtain rfl := Option.some.inj (gUnix.symm.trans hg1)
  obtain rfl := Option.some.inj (tUnix.symm.trans ht1)
  obtain rfl := Option.some.inj (gArch.symm.trans hg2)
  obtain rfl := Option.some.inj (tArch.symm.trans ht2)
  rw [dOS] at hd0
  rw [dUnix] at hd1
  rw [dArch] at hd2
  exact ⟨mapIs_of hd1 (by simpa using World.var?_cell hg1 hv1 0), (mapIs_of hd0 (by simpa using World.var?_cell hg0 hv0 0)).same sOS, (mapIs_of hd2 (by simpa using World.var?_cell hg2 hv2 0)).same sArch⟩

theorem trodVars_len3 {H : Type} {enc : TypeId × Value → H} {P : Program} {w : World} {sp : Nat → Bool} {n0 n1 n2 : String} {gs : List (DataW H)} {ps : List MemPlace} (h : DataW.TrodVars enc P w sp [n0, n1, n2] gs ps) : ∃ g1 g2 g3, gs = [g1, g2, g3] := by
  match gs, h with
  | [], h => exact h.elim
  | d :: ds, h =>
    obtain ⟨_, _, _, _, _, _, _, _, _, _, hs, _⟩ := h
    obtain ⟨_, _, _, _, _, _, _, _, _, _, _, _, rfl, _⟩ := trodVars_two hs
    exact ⟨_, _, _, rfl⟩

end Go.Proofs.YtbociefjibgklaaDoor
