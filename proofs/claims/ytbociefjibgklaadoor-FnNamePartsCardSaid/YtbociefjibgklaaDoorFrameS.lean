/-
  A setting among the arguments; the maps that a row lists.
-/
import Derived.Test.YtbociefjibgklaaDoorCards
import Derived.Test.YtbociefjibgklaaDoorTie
import Derived.Test.YtbociefjibgklaaDoorTagT
import Derived.Test.YtbociefjibgklaaDoorFrame
import Derived.ProofKit
import Derived.OpenShut
import Derived.OpenVars
import Derived.LaidMore
import Derived.Deep.DeepHandedRow
import Derived.Deep.DeepWitnessRowRef
import Derived.Lib.LaidTab
namespace Go.Proofs.YtbociefjibgklaaDoor
open Go.RowKit Go.ChangeShapes Go.WideShapes Go.ChangeAt
set_option linter.unusedVariables false
set_option linter.unusedSimpArgs false

theorem seven {α : Type} {l : List α} (h : l.length = 7) : ∃ a b c d e f g, l = [a, b, c, d, e, f, g] := by
  match l, h with
  | [a, b, c, d, e, f, g], _ => exact ⟨a, b, c, d, e, f, g, rfl⟩

theorem slice_form {H : Type} {enc : TypeId × Value → H} {P : Program} {W : World} {t e : TypeId} {base : Nat} {sp : Nat → Bool} {held : Bool} {fuel : Nat} {cs : List Value} {x : DataW H × List MemPlace}
    (ht : P.underlying t = some (.slice e)) (h : DataW.trod enc P W base sp held fuel t cs = some x) : ∃ a len cap, cs = [.slice a len cap] := by
  rcases DataW.trod_slice ht h with ⟨rfl, _⟩ | ⟨a, len, cap, _, _, _, _, rfl, _⟩
  · exact ⟨none, 0, 0, rfl⟩
  · exact ⟨_, _, _, rfl⟩

theorem cells_stg : Tryd.prog.cellsOf 24 = 7 := by kernel_rfl
theorem cells_str : Tryd.prog.cellsOf 9 = 1 := by kernel_rfl
theorem cells_bool : Tryd.prog.cellsOf 4 = 1 := by kernel_rfl
theorem cells_strs : Tryd.prog.cellsOf 22 = 1 := by kernel_rfl

theorem stg_of {H : Type} {enc : TypeId × Value → H} {W : World} {r : Reach} {base : Nat} {held : Bool} {v : Value} {d : DataW H} {p : List MemPlace}
    (hval : Value.okWide Tryd.prog W r base 24 v) (h : DataW.Trod enc Tryd.prog W 0 (fun _ => true) held 24 v d p) (hlt : ∀ x ∈ p, x.block < W.heap.size) :
    ∃ S : Stg, v = S.val ∧ S.Rd W := by
  obtain ⟨cs, rfl, hcs⟩ := okWide_struct Tryd.underlying24 hval
  obtain ⟨fuel, hf⟩ := h
  obtain ⟨xs, n, _, hx, hlen, hxs, hel⟩ := DataW.trod_struct Tryd.underlying24 hf
  have e0 := hel 0 _ rfl
  have e1 := hel 1 _ rfl
  have e2 := hel 2 _ rfl
  have e3 := hel 3 _ rfl
  have e4 := hel 4 _ rfl
  have e5 := hel 5 _ rfl
  have e6 := hel 6 _ rfl
  obtain ⟨l⟩ := cs
  rw [cells_stg] at hlen
  obtain ⟨v0, v1, v2, v3, v4, v5, v6, rfl⟩ := seven (l := l) (by simpa [Value.cells] using hlen)
  obtain ⟨y0, y1, y2, y3, y4, y5, y6, rfl⟩ := seven (l := xs) hxs
  simp only [Value.cells, cells_str, cells_bool, cells_strs] at e0 e1 e2 e3 e4 e5 e6
  injection hx with hxd hxp
  have k4 : ∀ x ∈ y4.2, x.block < W.heap.size := fun x hx' => hlt x (by rw [hxp]; simp [hx'])
  have k5 : ∀ x ∈ y5.2, x.block < W.heap.size := fun x hx' => hlt x (by rw [hxp]; simp [hx'])
  have k6 : ∀ x ∈ y6.2, x.block < W.heap.size := fun x hx' => hlt x (by rw [hxp]; simp [hx'])
  obtain ⟨os, h0, _, w0⟩ := DataW.trod_string Tryd.underlying9 (show DataW.trod enc Tryd.prog W 0 _ held n 9 [v0] = some y0 from e0)
  obtain ⟨ar, h1, _, w1⟩ := DataW.trod_string Tryd.underlying9 (show DataW.trod enc Tryd.prog W 0 _ held n 9 [v1] = some y1 from e1)
  obtain ⟨cg, h2, _⟩ := DataW.trod_bool Tryd.underlying4 (show DataW.trod enc Tryd.prog W 0 _ held n 4 [v2] = some y2 from e2)
  obtain ⟨co, h3, _, w3⟩ := DataW.trod_string Tryd.underlying9 (show DataW.trod enc Tryd.prog W 0 _ held n 9 [v3] = some y3 from e3)
  have f4 : DataW.trod enc Tryd.prog W 0 (fun _ => true) held n 22 [v4] = some (y4.1, y4.2) := e4
  have f5 : DataW.trod enc Tryd.prog W 0 (fun _ => true) held n 22 [v5] = some (y5.1, y5.2) := e5
  have f6 : DataW.trod enc Tryd.prog W 0 (fun _ => true) held n 22 [v6] = some (y6.1, y6.2) := e6
  obtain ⟨a4, n4, c4, h4⟩ := slice_form Tryd.underlying22 f4
  obtain ⟨a5, n5, c5, h5⟩ := slice_form Tryd.underlying22 f5
  obtain ⟨a6, n6, c6, h6⟩ := slice_form Tryd.underlying22 f6
  rw [h4] at f4
  rw [h5] at f5
  rw [h6] at f6
  obtain ⟨s4, rfl, t4, b4, m4⟩ := strs_of_trod Tryd.underlying22 Tryd.underlying9 cells_str f4 k4
  obtain ⟨s5, rfl, t5, b5, m5⟩ := strs_of_trod Tryd.underlying22 Tryd.underlying9 cells_str f5 k5
  obtain ⟨s6, rfl, t6, b6, m6⟩ := strs_of_trod Tryd.underlying22 Tryd.underlying9 cells_str f6 k6
  simp only [List.cons.injEq, and_true] at h0 h1 h2 h3 h4 h5 h6
  subst h0 h1 h2 h3 h4 h5 h6
  exact ⟨{ os := os, ar := ar, co := co, cgo := cg, s1 := s4, s2 := s5, s3 := s6, A1 := a4, A2 := a5, A3 := a6, c1 := c4, c2 := c5, c3 := c6 }, rfl, t4, t5, t6, Nat.le_trans b4 m4, Nat.le_trans b5 m5, Nat.le_trans b6 m6, w0, w1, w3⟩

theorem gUnix : Tryd.prog.globalNamed "loop.example/pub-g01463/pub/syslist.UnixOS" = some 0 := by kernel_rfl
theorem tUnix : (Tryd.prog.globals[0]?).map (·.type) = some 44 := by kernel_rfl
theorem dUnix : (Rows.laid_loop_example_pub_g01463_pub_syslist_UnixOS : DataW Unit) = setD unixKeys := by
  have e : unixKeys = [[97, 105, 120], [97, 110, 100, 114, 111, 105, 100], [100, 97, 114, 119, 105, 110], [100, 114, 97, 103, 111, 110, 102, 108, 121], [102, 114, 101, 101, 98, 115, 100], [104, 117, 114, 100], [105, 108, 108, 117, 109, 111, 115], [105, 111, 115], [108, 105, 110, 117, 120], [110, 101, 116, 98, 115, 100], [111, 112, 101, 110, 98, 115, 100], [115, 111, 108, 97, 114, 105, 115]] := by decide +kernel
  rw [e]; rfl

theorem unix_of_laid {W : World} (h : laidMetH Tryd.prog [("loop.example/pub-g01463/pub/syslist.UnixOS", Rows.laid_loop_example_pub_g01463_pub_syslist_UnixOS)] W) : UnixIs W := by
  rw [MakeChecks.laidMetH_plain _ _ _ (by kernel_rfl)] at h
  obtain ⟨ps, ⟨g0, t0, cs0, f0, p0, q0, hg0, ht0, hv0, hd0, _, _⟩, _, _⟩ := h
  obtain rfl := Option.some.inj (gUnix.symm.trans hg0)
  obtain rfl := Option.some.inj (tUnix.symm.trans ht0)
  rw [dUnix] at hd0
  exact mapIs_of hd0 (by simpa using World.var?_cell hg0 hv0 0)

end Go.Proofs.YtbociefjibgklaaDoor
