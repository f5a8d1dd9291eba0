/-
  Errors: the three that a reader meets.
-/
import Derived.Test.YtgplcbobomainaaDoorRdI
import Derived.Test.YtgplcbobomainaaDoorOwn
import Derived.LaidEql
namespace Go.Proofs.YtgplcbobomainaaDoor
open Go.RowKit
set_option linter.unusedVariables false
set_option linter.unusedSimpArgs false

/-- The blocks of the three errors. -/
structure EB where
  eof : Addr
  nul : Addr
  syn : Addr
def errOf (E : EB) : Er → Value
  | .no => .nilIface
  | .syn => errV E.syn
  | .nul => errV E.nul
def CellsAt (w : World) (b : Addr) : Prop := ∃ cs t, w.heap[b.block]? = some (.cells cs t (0, 0))
theorem CellsAt.below {w w' : World} {b : Addr} (h : CellsAt w b) (hb : Below w.heap.size w w') : CellsAt w' b := by
  obtain ⟨cs, t, e⟩ := h
  exact ⟨cs, t, (hb.block b.block (row_lt e)).trans e⟩
structure EB.Ok (E : EB) (gn gs : Nat) (w : World) : Prop where
  ceof : w.cell? ⟨2, 0, none⟩ = some (errV E.eof)
  cnul : w.cell? ⟨gn, 0, none⟩ = some (errV E.nul)
  csyn : w.cell? ⟨gs, 0, none⟩ = some (errV E.syn)
  en : E.eof ≠ E.nul
  es : E.eof ≠ E.syn
  ns : E.nul ≠ E.syn
  beof : CellsAt w E.eof
  bnul : CellsAt w E.nul
  bsyn : CellsAt w E.syn
theorem EB.Ok.below {E : EB} {gn gs : Nat} {w w' : World} (h : E.Ok gn gs w) (hb : Below w.heap.size w w') : E.Ok gn gs w' :=
  ⟨(hb.cell (p := ⟨2, 0, none⟩) (World.block_lt_of_cell? w _ h.ceof)).trans h.ceof, (hb.cell (p := ⟨gn, 0, none⟩) (World.block_lt_of_cell? w _ h.cnul)).trans h.cnul, (hb.cell (p := ⟨gs, 0, none⟩) (World.block_lt_of_cell? w _ h.csyn)).trans h.csyn, h.en, h.es, h.ns, h.beof.below hb, h.bnul.below hb, h.bsyn.below hb⟩

theorem ptr_info : (Tryd.prog.info? 98).map (fun i => i.comparable) = some true := by kernel_rfl
theorem es_info : (Tryd.prog.info? 117).map (fun i => i.size) = some 1 := by kernel_rfl
theorem err_same (a : Addr) (w : World) : (binOp .eql 48 (errV a) (errV a)).run Tryd.prog w = .ok (.bool true) w := by
  obtain ⟨i, hi, hc⟩ := Option.map_eq_some_iff.1 ptr_info
  obtain ⟨j, hj, _⟩ := Option.map_eq_some_iff.1 es_info
  exact run_eql_iface_ptr_same w a Tryd.underlying48 Tryd.underlying98 hi hc hj
theorem err_other {a b : Addr} {w : World} (h : a ≠ b) (ha : CellsAt w a) (hb : CellsAt w b) : (binOp .eql 48 (errV a) (errV b)).run Tryd.prog w = .ok (.bool false) w := by
  obtain ⟨i, hi, hc⟩ := Option.map_eq_some_iff.1 ptr_info
  obtain ⟨j, hj, hs⟩ := Option.map_eq_some_iff.1 es_info
  obtain ⟨ca, ta, ea⟩ := ha
  obtain ⟨cb, tb, eb⟩ := hb
  exact run_eql_iface_ptr_other w Tryd.underlying48 Tryd.underlying98 hi hc hj (by rw [hs]; decide) h ea eb

/-- What a slice owns stays where its row stays. -/
theorem ownsRow_keep {w w' : World} {base : Nat} {e : TypeId} {size n : Nat} {v : Value} {xs : List Value} (h : w.ownsRow base e size v n xs) (hk : ∀ g, v.ownBlock = some g → w'.heap[g]? = w.heap[g]?) : w'.ownsRow base e size v n xs := by
  obtain ⟨h1, h2⟩ := h
  refine ⟨h1, ?_⟩
  rcases h2 with h2 | ⟨g, cap, cur, hv, hg, hh, r⟩
  · exact Or.inl h2
  · exact Or.inr ⟨g, cap, cur, hv, hg, by rw [hk g (by rw [hv]; rfl)]; exact hh, r⟩
theorem own_lt {w : World} {base : Nat} {e : TypeId} {size n : Nat} {v : Value} {xs : List Value} (h : w.ownsRow base e size v n xs) : ∀ g, v.ownBlock = some g → base ≤ g ∧ g < w.heap.size := by
  intro g hg
  rcases h.2 with ⟨rfl, _⟩ | ⟨g', cap, cur, rfl, hb, hh, _⟩
  · simp [Value.ownBlock] at hg
  · have : g' = g := by simpa [Value.ownBlock] using hg
    subst this
    exact ⟨hb, row_lt hh⟩
end Go.Proofs.YtgplcbobomainaaDoor
