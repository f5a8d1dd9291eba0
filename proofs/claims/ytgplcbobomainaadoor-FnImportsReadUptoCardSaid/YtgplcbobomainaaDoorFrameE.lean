/-
  The errors that a row lists: where they lie.
-/
import Derived.Test.YtgplcbobomainaaDoorCards
import Derived.Test.YtgplcbobomainaaDoorTie
import Derived.Test.YtgplcbobomainaaDoorLwB
import Derived.Test.YtgplcbobomainaaDoorFrame
import Derived.ProofKit
import Derived.OpenShut
import Derived.OpenVars
import Derived.LaidMore
import Derived.LaidLaws
import Derived.Stop.LaidErr
import Derived.Deep.DeepHandedRow
import Derived.Deep.DeepWitnessRowRef
import Derived.Lib.LaidTab
namespace Go.Proofs.YtgplcbobomainaaDoor
open Go.RowKit Go.ChangeShapes Go.WideShapes Go.ChangeAt
set_option linter.unusedVariables false
set_option linter.unusedSimpArgs false

theorem cells_str : Tryd.prog.cellsOf 9 = 1 := by kernel_rfl
theorem cells_es : Tryd.prog.cellsOf 117 = 1 := by kernel_rfl
theorem starE : "*" ++ "errors.errorString" = "*errors.errorString" := by decide
theorem rowE (u : TypeId) (h : Tryd.prog.typeName? 3 u = some "*errors.errorString") : u = 98 :=
  typeName_ptr_named (nm := "errors.errorString") (by rw [starE]; kernel_rfl) (by kernel_rfl) (by decide) u (by rw [starE]; exact h)
theorem gEOF : Tryd.prog.globalNamed "io.EOF" = some 2 := by kernel_rfl
theorem tEOF : (Tryd.prog.globals[2]?).map (·.type) = some 48 := by kernel_rfl
theorem gNoP : Tryd.prog.globalNamed "io.ErrNoProgress" = some 6 := by kernel_rfl
theorem tNoP : (Tryd.prog.globals[6]?).map (·.type) = some 48 := by kernel_rfl
theorem gFull : Tryd.prog.globalNamed "bufio.ErrBufferFull" = some 4 := by kernel_rfl
theorem tFull : (Tryd.prog.globals[4]?).map (·.type) = some 48 := by kernel_rfl
theorem gNeg : Tryd.prog.globalNamed "bufio.ErrNegativeCount" = some 3 := by kernel_rfl
theorem tNeg : (Tryd.prog.globals[3]?).map (·.type) = some 48 := by kernel_rfl
theorem gNegR : Tryd.prog.globalNamed "bufio.errNegativeRead" = some 5 := by kernel_rfl
theorem tNegR : (Tryd.prog.globals[5]?).map (·.type) = some 48 := by kernel_rfl
theorem gISyn : Tryd.prog.globalNamed "loop.example/pub-g01463/pub/goimports.errSyntax" = some 0 := by kernel_rfl
theorem tISyn : (Tryd.prog.globals[0]?).map (·.type) = some 48 := by kernel_rfl
theorem gINul : Tryd.prog.globalNamed "loop.example/pub-g01463/pub/goimports.errNUL" = some 1 := by kernel_rfl
theorem tINul : (Tryd.prog.globals[1]?).map (·.type) = some 48 := by kernel_rfl
theorem gBSyn : Tryd.prog.globalNamed "loop.example/pub-g01463/pub/gobuildread.errSyntax" = some 8 := by kernel_rfl
theorem tBSyn : (Tryd.prog.globals[8]?).map (·.type) = some 48 := by kernel_rfl
theorem gBNul : Tryd.prog.globalNamed "loop.example/pub-g01463/pub/gobuildread.errNUL" = some 7 := by kernel_rfl
theorem tBNul : (Tryd.prog.globals[7]?).map (·.type) = some 48 := by kernel_rfl
theorem wf_i64 {a : Int} (h : (Lit.int .i64 a).wf = true) : IntKind.i64.wrap a = a := IntWalk.i64_in a (by simpa [Lit.wf, IntKind.min, IntKind.max, IntKind.signed, IntKind.bits] using h)
theorem var_keep {P : Program} {W W' : World} {n : String} {cs : Array Value} (h : W.var? P n = some cs) (hb : Below W.heap.size W W') : W'.var? P n = some cs := by
  unfold World.var? at h ⊢
  cases hg : P.globalNamed n with
  | none => simp [hg] at h
  | some g =>
    simp only [hg, Option.bind_some] at h ⊢
    have hlt : g < W.heap.size := by
      rcases Nat.lt_or_ge g W.heap.size with h' | h'
      · exact h'
      · simp [Array.getElem?_eq_none h'] at h
    rw [hb.block g hlt]
    exact h
theorem vars_read4 {H : Type} (enc : TypeId × Value → H) {P : Program} {W : World} {n0 n1 n2 n3 : String} {g0 g1 g2 g3 : Nat} {ti : TypeId} {ms : Array (String × TypeId)} {x0 x1 x2 x3 : Value} (hi : P.underlying ti = some (.interface ms))
    (hg0 : P.globalNamed n0 = some g0) (ht0 : (P.globals[g0]?).map (·.type) = some ti) (h0 : W.var? P n0 = some #[x0]) (i0 : IsIface x0)
    (hg1 : P.globalNamed n1 = some g1) (ht1 : (P.globals[g1]?).map (·.type) = some ti) (h1 : W.var? P n1 = some #[x1]) (i1 : IsIface x1)
    (hg2 : P.globalNamed n2 = some g2) (ht2 : (P.globals[g2]?).map (·.type) = some ti) (h2 : W.var? P n2 = some #[x2]) (i2 : IsIface x2)
    (hg3 : P.globalNamed n3 = some g3) (ht3 : (P.globals[g3]?).map (·.type) = some ti) (h3 : W.var? P n3 = some #[x3]) (i3 : IsIface x3) (sp : Nat → Bool) :
    DataW.TrodVars enc P W sp [n0, n1, n2, n3] [tok enc x0, tok enc x1, tok enc x2, tok enc x3] [.cell g0 0, .cell g1 0, .cell g2 0, .cell g3 0] :=
  ⟨g0, ti, #[x0], 1, [], _, hg0, ht0, h0, trod_held hi i0 0, ⟨g1, ti, #[x1], 1, [], _, hg1, ht1, h1, trod_held hi i1 0, ⟨g2, ti, #[x2], 1, [], _, hg2, ht2, h2, trod_held hi i2 0, ⟨g3, ti, #[x3], 1, [], [], hg3, ht3, h3, trod_held hi i3 0, rfl, rfl⟩, rfl⟩, rfl⟩, rfl⟩
def laidL7 : List (String × DataW Unit) := [("io.EOF", Rows.laid_io_EOF), ("io.ErrNoProgress", Rows.laid_io_ErrNoProgress), ("bufio.ErrBufferFull", Rows.laid_bufio_ErrBufferFull), ("bufio.ErrNegativeCount", Rows.laid_bufio_ErrNegativeCount), ("bufio.errNegativeRead", Rows.laid_bufio_errNegativeRead), ("loop.example/pub-g01463/pub/goimports.errSyntax", Rows.laid_loop_example_pub_g01463_pub_goimports_errSyntax), ("loop.example/pub-g01463/pub/goimports.errNUL", Rows.laid_loop_example_pub_g01463_pub_goimports_errNUL)]
set_option maxRecDepth 100000 in
set_option maxHeartbeats 2000000 in
theorem errs7_of_laid {W : World} (h : laidMetH Tryd.prog laidL7 W) : ∃ E : EB, OkI E W ∧ W.var? Tryd.prog "loop.example/pub-g01463/pub/goimports.errSyntax" = some #[errV E.syn] ∧ W.var? Tryd.prog "loop.example/pub-g01463/pub/goimports.errNUL" = some #[errV E.nul] := by
  rw [MakeChecks.laidMetH_plain _ _ _ (by kernel_rfl)] at h
  obtain ⟨ps, ⟨g0, t0, cs0, f0, p0, q0, hg0, ht0, hv0, hd0, ⟨g1, t1, cs1, f1, p1, q1, hg1, ht1, hv1, hd1, ⟨g2, t2, cs2, f2, p2, q2, hg2, ht2, hv2, hd2, ⟨g3, t3, cs3, f3, p3, q3, hg3, ht3, hv3, hd3, ⟨g4, t4, cs4, f4, p4, q4, hg4, ht4, hv4, hd4, ⟨g5, t5, cs5, f5, p5, q5, hg5, ht5, hv5, hd5, ⟨g6, t6, cs6, f6, p6, q6, hg6, ht6, hv6, hd6, hq, e6⟩, e5⟩, e4⟩, e3⟩, e2⟩, e1⟩, e0⟩, hnd, hrows⟩ := h
  obtain rfl := Option.some.inj (gEOF.symm.trans hg0)
  obtain rfl := Option.some.inj (tEOF.symm.trans ht0)
  obtain rfl := Option.some.inj (gNoP.symm.trans hg1)
  obtain rfl := Option.some.inj (tNoP.symm.trans ht1)
  obtain rfl := Option.some.inj (gFull.symm.trans hg2)
  obtain rfl := Option.some.inj (tFull.symm.trans ht2)
  obtain rfl := Option.some.inj (gNeg.symm.trans hg3)
  obtain rfl := Option.some.inj (tNeg.symm.trans ht3)
  obtain rfl := Option.some.inj (gNegR.symm.trans hg4)
  obtain rfl := Option.some.inj (tNegR.symm.trans ht4)
  obtain rfl := Option.some.inj (gISyn.symm.trans hg5)
  obtain rfl := Option.some.inj (tISyn.symm.trans ht5)
  obtain rfl := Option.some.inj (gINul.symm.trans hg6)
  obtain rfl := Option.some.inj (tINul.symm.trans ht6)
  have hq2 : q6 = [] := hq
  subst hq2
  subst e6
  subst e5
  subst e4
  subst e3
  subst e2
  subst e1
  subst e0
  obtain ⟨l0⟩ := cs0
  obtain ⟨l1⟩ := cs1
  obtain ⟨l2⟩ := cs2
  obtain ⟨l3⟩ := cs3
  obtain ⟨l4⟩ := cs4
  obtain ⟨l5⟩ := cs5
  obtain ⟨l6⟩ := cs6
  have ok0 : ∀ u v, l0 = [.iface u v] → Value.okWide Tryd.prog W .any 0 u v := fun u v e => by
    subst e
    exact (hrows 2 0 (by simp [MemPlace.row])).2 u v (by simpa using World.var?_cell hg0 hv0 0)
  have ok1 : ∀ u v, l1 = [.iface u v] → Value.okWide Tryd.prog W .any 0 u v := fun u v e => by
    subst e
    exact (hrows 6 0 (by simp [MemPlace.row])).2 u v (by simpa using World.var?_cell hg1 hv1 0)
  have ok2 : ∀ u v, l2 = [.iface u v] → Value.okWide Tryd.prog W .any 0 u v := fun u v e => by
    subst e
    exact (hrows 4 0 (by simp [MemPlace.row])).2 u v (by simpa using World.var?_cell hg2 hv2 0)
  have ok3 : ∀ u v, l3 = [.iface u v] → Value.okWide Tryd.prog W .any 0 u v := fun u v e => by
    subst e
    exact (hrows 3 0 (by simp [MemPlace.row])).2 u v (by simpa using World.var?_cell hg3 hv3 0)
  have ok4 : ∀ u v, l4 = [.iface u v] → Value.okWide Tryd.prog W .any 0 u v := fun u v e => by
    subst e
    exact (hrows 5 0 (by simp [MemPlace.row])).2 u v (by simpa using World.var?_cell hg4 hv4 0)
  have ok5 : ∀ u v, l5 = [.iface u v] → Value.okWide Tryd.prog W .any 0 u v := fun u v e => by
    subst e
    exact (hrows 0 0 (by simp [MemPlace.row])).2 u v (by simpa using World.var?_cell hg5 hv5 0)
  have ok6 : ∀ u v, l6 = [.iface u v] → Value.okWide Tryd.prog W .any 0 u v := fun u v e => by
    subst e
    exact (hrows 1 0 (by simp [MemPlace.row])).2 u v (by simpa using World.var?_cell hg6 hv6 0)
  obtain ⟨a0, s0, rfl, hc0, hs0, hz0, rfl⟩ := errorString_of_trod Tryd.underlying48 rowE Tryd.underlying98 Tryd.underlying117 rfl rfl Tryd.underlying9 cells_es cells_str hd0 ok0
  obtain ⟨a1, s1, rfl, hc1, hs1, hz1, rfl⟩ := errorString_of_trod Tryd.underlying48 rowE Tryd.underlying98 Tryd.underlying117 rfl rfl Tryd.underlying9 cells_es cells_str hd1 ok1
  obtain ⟨a2, s2, rfl, hc2, hs2, hz2, rfl⟩ := errorString_of_trod Tryd.underlying48 rowE Tryd.underlying98 Tryd.underlying117 rfl rfl Tryd.underlying9 cells_es cells_str hd2 ok2
  obtain ⟨a3, s3, rfl, hc3, hs3, hz3, rfl⟩ := errorString_of_trod Tryd.underlying48 rowE Tryd.underlying98 Tryd.underlying117 rfl rfl Tryd.underlying9 cells_es cells_str hd3 ok3
  obtain ⟨a4, s4, rfl, hc4, hs4, hz4, rfl⟩ := errorString_of_trod Tryd.underlying48 rowE Tryd.underlying98 Tryd.underlying117 rfl rfl Tryd.underlying9 cells_es cells_str hd4 ok4
  obtain ⟨a5, s5, rfl, hc5, hs5, hz5, rfl⟩ := errorString_of_trod Tryd.underlying48 rowE Tryd.underlying98 Tryd.underlying117 rfl rfl Tryd.underlying9 cells_es cells_str hd5 ok5
  obtain ⟨a6, s6, rfl, hc6, hs6, hz6, rfl⟩ := errorString_of_trod Tryd.underlying48 rowE Tryd.underlying98 Tryd.underlying117 rfl rfl Tryd.underlying9 cells_es cells_str hd6 ok6
  have b0 : CellsAt W a0 := (hrows a0.block a0.off (by simp [MemPlace.row])).1
  have c0 : W.cell? ⟨2, 0, none⟩ = some (errV a0) := by simpa [errV] using World.var?_cell hg0 hv0 0
  have b5 : CellsAt W a5 := (hrows a5.block a5.off (by simp [MemPlace.row])).1
  have c5 : W.cell? ⟨0, 0, none⟩ = some (errV a5) := by simpa [errV] using World.var?_cell hg5 hv5 0
  have b6 : CellsAt W a6 := (hrows a6.block a6.off (by simp [MemPlace.row])).1
  have c6 : W.cell? ⟨1, 0, none⟩ = some (errV a6) := by simpa [errV] using World.var?_cell hg6 hv6 0
  have d06 : a0 ≠ a6 := by rintro rfl; simp [MemPlace.row] at hnd
  have d05 : a0 ≠ a5 := by rintro rfl; simp [MemPlace.row] at hnd
  have d65 : a6 ≠ a5 := by rintro rfl; simp [MemPlace.row] at hnd
  exact ⟨⟨a0, a6, a5⟩, ⟨c0, c6, c5, d06, d05, d65, b0, b6, b5⟩, hv5, hv6⟩
def laidL9 : List (String × DataW Unit) := [("io.EOF", Rows.laid_io_EOF), ("io.ErrNoProgress", Rows.laid_io_ErrNoProgress), ("bufio.ErrBufferFull", Rows.laid_bufio_ErrBufferFull), ("bufio.ErrNegativeCount", Rows.laid_bufio_ErrNegativeCount), ("bufio.errNegativeRead", Rows.laid_bufio_errNegativeRead), ("loop.example/pub-g01463/pub/goimports.errSyntax", Rows.laid_loop_example_pub_g01463_pub_goimports_errSyntax), ("loop.example/pub-g01463/pub/goimports.errNUL", Rows.laid_loop_example_pub_g01463_pub_goimports_errNUL), ("loop.example/pub-g01463/pub/gobuildread.errSyntax", Rows.laid_loop_example_pub_g01463_pub_gobuildread_errSyntax), ("loop.example/pub-g01463/pub/gobuildread.errNUL", Rows.laid_loop_example_pub_g01463_pub_gobuildread_errNUL)]
set_option maxRecDepth 100000 in
set_option maxHeartbeats 2000000 in
theorem errs9_of_laid {W : World} (h : laidMetH Tryd.prog laidL9 W) : ∃ E E2 : EB, OkI E W ∧ OkB E2 W ∧ W.var? Tryd.prog "loop.example/pub-g01463/pub/goimports.errSyntax" = some #[errV E.syn] ∧ W.var? Tryd.prog "loop.example/pub-g01463/pub/goimports.errNUL" = some #[errV E.nul] ∧ W.var? Tryd.prog "loop.example/pub-g01463/pub/gobuildread.errSyntax" = some #[errV E2.syn] ∧ W.var? Tryd.prog "loop.example/pub-g01463/pub/gobuildread.errNUL" = some #[errV E2.nul] := by
  rw [MakeChecks.laidMetH_plain _ _ _ (by kernel_rfl)] at h
  obtain ⟨ps, ⟨g0, t0, cs0, f0, p0, q0, hg0, ht0, hv0, hd0, ⟨g1, t1, cs1, f1, p1, q1, hg1, ht1, hv1, hd1, ⟨g2, t2, cs2, f2, p2, q2, hg2, ht2, hv2, hd2, ⟨g3, t3, cs3, f3, p3, q3, hg3, ht3, hv3, hd3, ⟨g4, t4, cs4, f4, p4, q4, hg4, ht4, hv4, hd4, ⟨g5, t5, cs5, f5, p5, q5, hg5, ht5, hv5, hd5, ⟨g6, t6, cs6, f6, p6, q6, hg6, ht6, hv6, hd6, ⟨g7, t7, cs7, f7, p7, q7, hg7, ht7, hv7, hd7, ⟨g8, t8, cs8, f8, p8, q8, hg8, ht8, hv8, hd8, hq, e8⟩, e7⟩, e6⟩, e5⟩, e4⟩, e3⟩, e2⟩, e1⟩, e0⟩, hnd, hrows⟩ := h
  obtain rfl := Option.some.inj (gEOF.symm.trans hg0)
  obtain rfl := Option.some.inj (tEOF.symm.trans ht0)
  obtain rfl := Option.some.inj (gNoP.symm.trans hg1)
  obtain rfl := Option.some.inj (tNoP.symm.trans ht1)
  obtain rfl := Option.some.inj (gFull.symm.trans hg2)
  obtain rfl := Option.some.inj (tFull.symm.trans ht2)
  obtain rfl := Option.some.inj (gNeg.symm.trans hg3)
  obtain rfl := Option.some.inj (tNeg.symm.trans ht3)
  obtain rfl := Option.some.inj (gNegR.symm.trans hg4)
  obtain rfl := Option.some.inj (tNegR.symm.trans ht4)
  obtain rfl := Option.some.inj (gISyn.symm.trans hg5)
  obtain rfl := Option.some.inj (tISyn.symm.trans ht5)
  obtain rfl := Option.some.inj (gINul.symm.trans hg6)
  obtain rfl := Option.some.inj (tINul.symm.trans ht6)
  obtain rfl := Option.some.inj (gBSyn.symm.trans hg7)
  obtain rfl := Option.some.inj (tBSyn.symm.trans ht7)
  obtain rfl := Option.some.inj (gBNul.symm.trans hg8)
  obtain rfl := Option.some.inj (tBNul.symm.trans ht8)
  have hq2 : q8 = [] := hq
  subst hq2
  subst e8
  subst e7
  subst e6
  subst e5
  subst e4
  subst e3
  subst e2
  subst e1
  subst e0
  obtain ⟨l0⟩ := cs0
  obtain ⟨l1⟩ := cs1
  obtain ⟨l2⟩ := cs2
  obtain ⟨l3⟩ := cs3
  obtain ⟨l4⟩ := cs4
  obtain ⟨l5⟩ := cs5
  obtain ⟨l6⟩ := cs6
  obtain ⟨l7⟩ := cs7
  obtain ⟨l8⟩ := cs8
  have ok0 : ∀ u v, l0 = [.iface u v] → Value.okWide Tryd.prog W .any 0 u v := fun u v e => by
    subst e
    exact (hrows 2 0 (by simp [MemPlace.row])).2 u v (by simpa using World.var?_cell hg0 hv0 0)
  have ok1 : ∀ u v, l1 = [.iface u v] → Value.okWide Tryd.prog W .any 0 u v := fun u v e => by
    subst e
    exact (hrows 6 0 (by simp [MemPlace.row])).2 u v (by simpa using World.var?_cell hg1 hv1 0)
  have ok2 : ∀ u v, l2 = [.iface u v] → Value.okWide Tryd.prog W .any 0 u v := fun u v e => by
    subst e
    exact (hrows 4 0 (by simp [MemPlace.row])).2 u v (by simpa using World.var?_cell hg2 hv2 0)
  have ok3 : ∀ u v, l3 = [.iface u v] → Value.okWide Tryd.prog W .any 0 u v := fun u v e => by
    subst e
    exact (hrows 3 0 (by simp [MemPlace.row])).2 u v (by simpa using World.var?_cell hg3 hv3 0)
  have ok4 : ∀ u v, l4 = [.iface u v] → Value.okWide Tryd.prog W .any 0 u v := fun u v e => by
    subst e
    exact (hrows 5 0 (by simp [MemPlace.row])).2 u v (by simpa using World.var?_cell hg4 hv4 0)
  have ok5 : ∀ u v, l5 = [.iface u v] → Value.okWide Tryd.prog W .any 0 u v := fun u v e => by
    subst e
    exact (hrows 0 0 (by simp [MemPlace.row])).2 u v (by simpa using World.var?_cell hg5 hv5 0)
  have ok6 : ∀ u v, l6 = [.iface u v] → Value.okWide Tryd.prog W .any 0 u v := fun u v e => by
    subst e
    exact (hrows 1 0 (by simp [MemPlace.row])).2 u v (by simpa using World.var?_cell hg6 hv6 0)
  have ok7 : ∀ u v, l7 = [.iface u v] → Value.okWide Tryd.prog W .any 0 u v := fun u v e => by
    subst e
    exact (hrows 8 0 (by simp [MemPlace.row])).2 u v (by simpa using World.var?_cell hg7 hv7 0)
  have ok8 : ∀ u v, l8 = [.iface u v] → Value.okWide Tryd.prog W .any 0 u v := fun u v e => by
    subst e
    exact (hrows 7 0 (by simp [MemPlace.row])).2 u v (by simpa using World.var?_cell hg8 hv8 0)
  obtain ⟨a0, s0, rfl, hc0, hs0, hz0, rfl⟩ := errorString_of_trod Tryd.underlying48 rowE Tryd.underlying98 Tryd.underlying117 rfl rfl Tryd.underlying9 cells_es cells_str hd0 ok0
  obtain ⟨a1, s1, rfl, hc1, hs1, hz1, rfl⟩ := errorString_of_trod Tryd.underlying48 rowE Tryd.underlying98 Tryd.underlying117 rfl rfl Tryd.underlying9 cells_es cells_str hd1 ok1
  obtain ⟨a2, s2, rfl, hc2, hs2, hz2, rfl⟩ := errorString_of_trod Tryd.underlying48 rowE Tryd.underlying98 Tryd.underlying117 rfl rfl Tryd.underlying9 cells_es cells_str hd2 ok2
  obtain ⟨a3, s3, rfl, hc3, hs3, hz3, rfl⟩ := errorString_of_trod Tryd.underlying48 rowE Tryd.underlying98 Tryd.underlying117 rfl rfl Tryd.underlying9 cells_es cells_str hd3 ok3
  obtain ⟨a4, s4, rfl, hc4, hs4, hz4, rfl⟩ := errorString_of_trod Tryd.underlying48 rowE Tryd.underlying98 Tryd.underlying117 rfl rfl Tryd.underlying9 cells_es cells_str hd4 ok4
  obtain ⟨a5, s5, rfl, hc5, hs5, hz5, rfl⟩ := errorString_of_trod Tryd.underlying48 rowE Tryd.underlying98 Tryd.underlying117 rfl rfl Tryd.underlying9 cells_es cells_str hd5 ok5
  obtain ⟨a6, s6, rfl, hc6, hs6, hz6, rfl⟩ := errorString_of_trod Tryd.underlying48 rowE Tryd.underlying98 Tryd.underlying117 rfl rfl Tryd.underlying9 cells_es cells_str hd6 ok6
  obtain ⟨a7, s7, rfl, hc7, hs7, hz7, rfl⟩ := errorString_of_trod Tryd.underlying48 rowE Tryd.underlying98 Tryd.underlying117 rfl rfl Tryd.underlying9 cells_es cells_str hd7 ok7
  obtain ⟨a8, s8, rfl, hc8, hs8, hz8, rfl⟩ := errorString_of_trod Tryd.underlying48 rowE Tryd.underlying98 Tryd.underlying117 rfl rfl Tryd.underlying9 cells_es cells_str hd8 ok8
  have b0 : CellsAt W a0 := (hrows a0.block a0.off (by simp [MemPlace.row])).1
  have c0 : W.cell? ⟨2, 0, none⟩ = some (errV a0) := by simpa [errV] using World.var?_cell hg0 hv0 0
  have b5 : CellsAt W a5 := (hrows a5.block a5.off (by simp [MemPlace.row])).1
  have c5 : W.cell? ⟨0, 0, none⟩ = some (errV a5) := by simpa [errV] using World.var?_cell hg5 hv5 0
  have b6 : CellsAt W a6 := (hrows a6.block a6.off (by simp [MemPlace.row])).1
  have c6 : W.cell? ⟨1, 0, none⟩ = some (errV a6) := by simpa [errV] using World.var?_cell hg6 hv6 0
  have b7 : CellsAt W a7 := (hrows a7.block a7.off (by simp [MemPlace.row])).1
  have c7 : W.cell? ⟨8, 0, none⟩ = some (errV a7) := by simpa [errV] using World.var?_cell hg7 hv7 0
  have b8 : CellsAt W a8 := (hrows a8.block a8.off (by simp [MemPlace.row])).1
  have c8 : W.cell? ⟨7, 0, none⟩ = some (errV a8) := by simpa [errV] using World.var?_cell hg8 hv8 0
  have d06 : a0 ≠ a6 := by rintro rfl; simp [MemPlace.row] at hnd
  have d05 : a0 ≠ a5 := by rintro rfl; simp [MemPlace.row] at hnd
  have d65 : a6 ≠ a5 := by rintro rfl; simp [MemPlace.row] at hnd
  have d08 : a0 ≠ a8 := by rintro rfl; simp [MemPlace.row] at hnd
  have d07 : a0 ≠ a7 := by rintro rfl; simp [MemPlace.row] at hnd
  have d87 : a8 ≠ a7 := by rintro rfl; simp [MemPlace.row] at hnd
  exact ⟨⟨a0, a6, a5⟩, ⟨a0, a8, a7⟩, ⟨c0, c6, c5, d06, d05, d65, b0, b6, b5⟩, ⟨c0, c8, c7, d08, d07, d87, b0, b8, b7⟩, hv5, hv6, hv7, hv8⟩
end Go.Proofs.YtgplcbobomainaaDoor
