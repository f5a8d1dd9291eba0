/-
  bufio: NewReader.
-/
import Derived.Test.YtgplcbobomainaaDoorRdH
import Derived.Laws.MakeOwn
namespace Go.Proofs.YtgplcbobomainaaDoor
open Go.RowKit
set_option linter.unusedVariables false
set_option linter.unusedSimpArgs false

theorem u8_info : (Tryd.prog.info? 5).map (fun i => (i.zero, i.size, i.bytes)) = some (some (.int .u8 0), 1, 1) := by kernel_rfl
theorem made_u8 (n : Nat) : madeCells (Value.int .u8 0).cells n = (bv (List.replicate n 0)).toArray := by
  apply Array.ext
  · simp [madeCells, bv]
  · intro i h1 h2
    simp [madeCells, bv, Value.cells, Nat.mod_one]
theorem make4096 : ∃ Z : List UInt8, Z.length = 4096 ∧ ∀ w : World, (Instr.makeSlice 22 (.int .i64 4096) (.int .i64 4096)).run Tryd.prog w = .ok (.slice (some ⟨w.heap.size, 0, none⟩) 4096 4096) (w.alloc (.cells (bv Z).toArray 5)) := by
  obtain ⟨i, hi, hz, hs, hb⟩ := info_parts u8_info
  refine ⟨List.replicate 4096 0, List.length_replicate, fun w => ?_⟩
  have h := run_makeSlice (P := Tryd.prog) w 22 5 i (.int .u8 0) Tryd.underlying22 hi hz .i64 .i64 4096 4096 (by decide) (by decide) (by rw [hs]; decide) (by rw [hb]; decide) (by decide)
  rw [h, hs, made_u8]
  rfl

theorem reset_any (q B s : Nat) (K : SK) (cs : Array Value) (w : World) (hq : w.heap[q]? = some (.cells #[.slice none 0 0, .nilIface, .int .i64 0, .int .i64 0, .nilIface, .int .i64 0, .int .i64 0] 92 (0, 0))) :
    Calls Tryd.prog 62 #[.pointer (some ⟨q, 0, none⟩), .slice (some ⟨B, 0, none⟩) 4096 4096, .iface (srcT K) (.pointer (some ⟨s, 0, none⟩))] w fun e w' => e = .returned (.tuple #[]) ∧ Fr [q] w w' ∧ w'.heap[q]? = some (.cells (bufCs K B s 0 0 .nilIface (-1) (-1)) 92 (0, 0)) := by
  have c0 : w.cell? ⟨q, 0, none⟩ = some (.slice none 0 0) := cells_row hq 0
  have c1 : w.cell? ⟨q, 1, none⟩ = some .nilIface := cells_row hq 1
  have c2 : w.cell? ⟨q, 2, none⟩ = some (.int .i64 0) := cells_row hq 2
  have c3 : w.cell? ⟨q, 3, none⟩ = some (.int .i64 0) := cells_row hq 3
  have c4 : w.cell? ⟨q, 4, none⟩ = some .nilIface := cells_row hq 4
  have c5 : w.cell? ⟨q, 5, none⟩ = some (.int .i64 0) := cells_row hq 5
  have c6 : w.cell? ⟨q, 6, none⟩ = some (.int .i64 0) := cells_row hq 6
  have f0 := row_thaw hq 0
  have f1 := row_thaw hq 1
  have f2 := row_thaw hq 2
  have f3 := row_thaw hq 3
  have f4 := row_thaw hq 4
  have f5 := row_thaw hq 5
  have f6 := row_thaw hq 6
  go_enter Tryd.func62, Tryd.ntmps62
  go_wp2_with fail
  go_end0
  refine ⟨rfl, (((((((Fr.refl [q] w).setCell (p := ⟨q, 0, none⟩) (by simp) _).setCell (p := ⟨q, 1, none⟩) (by simp) _).setCell (p := ⟨q, 2, none⟩) (by simp) _).setCell (p := ⟨q, 3, none⟩) (by simp) _).setCell (p := ⟨q, 4, none⟩) (by simp) _).setCell (p := ⟨q, 5, none⟩) (by simp) _).setCell (p := ⟨q, 6, none⟩) (by simp) _, ?_⟩
  exact heap_setCell_same _ q 6 _ _ _ (heap_setCell_same _ q 5 _ _ _ (heap_setCell_same _ q 4 _ _ _ (heap_setCell_same _ q 3 _ _ _ (heap_setCell_same _ q 2 _ _ _ (heap_setCell_same _ q 1 _ _ _ (heap_setCell_same _ q 0 _ _ _ hq))))))

/-- A new reader over a source. -/
def NewPost (K : SK) (eb : Addr) (s d : Nat) (l : List UInt8) (w : World) (e : Ending) (w' : World) : Prop :=
  ∃ q B bs, e = .returned (.pointer (some ⟨q, 0, none⟩)) ∧ BufAt K eb q B s d 0 0 bs l false (-1) (-1) w' ∧ Below w.heap.size w w' ∧ w.heap.size ≤ q ∧ w.heap.size ≤ B
theorem assert_no (K : SK) (s : Nat) (w : World) : (Instr.typeAssert (.iface (srcT K) (.pointer (some ⟨s, 0, none⟩))) 60 63 true).run Tryd.prog w = .ok (.tuple #[.pointer none, .bool false]) w := by
  cases K
  · kernel_rfl
  · kernel_rfl
set_option maxHeartbeats 1000000 in
theorem newReaderSize_any (K : SK) (eb : Addr) (s d : Nat) (l : List UInt8) (w : World) (hs : SrcAt K w s d l) (hsd : d ≠ s) (he : w.cell? ⟨2, 0, none⟩ = some (errV eb)) (hg : 2 ≠ s) :
    Calls Tryd.prog 52 #[.iface (srcT K) (.pointer (some ⟨s, 0, none⟩)), .int .i64 4096] w (NewPost K eb s d l w) := by
  obtain ⟨Z, hZl, hZ⟩ := make4096
  have hZ1 := hZ (w.alloc (.cells #[.slice none 0 0, .nilIface, .int .i64 0, .int .i64 0, .nilIface, .int .i64 0, .int .i64 0] 92))
  have has := assert_no K s w
  have hlt := hs.lt
  go_enter Tryd.func52, Tryd.ntmps52
  go_wp2_with fail
  have b1 : Below w.heap.size w (w.alloc (.cells #[.slice none 0 0, .nilIface, .int .i64 0, .int .i64 0, .nilIface, .int .i64 0, .int .i64 0] 92)) := (Below.refl _ _).alloc (Nat.le_refl _) _
  have hq1 : (w.alloc (.cells #[.slice none 0 0, .nilIface, .int .i64 0, .int .i64 0, .nilIface, .int .i64 0, .int .i64 0] 92)).heap[w.heap.size]? = some (.cells #[.slice none 0 0, .nilIface, .int .i64 0, .int .i64 0, .nilIface, .int .i64 0, .int .i64 0] 92 (0, 0)) := heap_alloc_new w _
  have hz1 : (w.alloc (.cells #[.slice none 0 0, .nilIface, .int .i64 0, .int .i64 0, .nilIface, .int .i64 0, .int .i64 0] 92)).heap.size = w.heap.size + 1 := by simp
  clear hZ hZ1 has
  generalize w.alloc (.cells #[.slice none 0 0, .nilIface, .int .i64 0, .int .i64 0, .nilIface, .int .i64 0, .int .i64 0] 92) = w1 at *
  have b2 : Below w.heap.size w (w1.alloc (.cells (bv Z).toArray 5)) := b1.alloc b1.size _
  have hB2 : (w1.alloc (.cells (bv Z).toArray 5)).heap[w.heap.size + 1]? = some (.cells (bv Z).toArray 5 (0, 0)) := by rw [← hz1]; exact heap_alloc_new w1 _
  have hq2 : (w1.alloc (.cells (bv Z).toArray 5)).heap[w.heap.size]? = _ := (Below.heap_alloc w1 _ _ (by omega)).trans hq1
  clear b1 hq1
  generalize w1.alloc _ = w2 at *
  refine (reset_any w.heap.size (w.heap.size + 1) s K #[] w2 hq2).mono ?_; rintro e w3 ⟨rfl, hF, hq3⟩
  have b3 : Below w.heap.size w w3 := b2.trans (hF.below b2.size (fun k hk => by simp at hk; omega))
  have hB3 : w3.heap[w.heap.size + 1]? = some (.cells (bv Z).toArray 5 (0, 0)) := (hF.block _ (row_lt hB2) (by simp)).trans hB2
  have hs3 : SrcAt K w3 s d l := hs.keep b3.size (b3.block s hlt.1) (b3.block d hlt.2)
  have he3 : w3.cell? ⟨2, 0, none⟩ = some (errV eb) := (World.cell?_of_block (a := ⟨2, 0, none⟩) (b3.block _ (World.block_lt_of_cell? w _ he))).trans he
  have hgl := World.block_lt_of_cell? w _ he
  have hgl' : 2 < w.heap.size := hgl
  clear b2 hF hB2 hq2 hs he hgl hz1
  go_wp2_with fail
  go_ret
  exact ⟨w.heap.size, w.heap.size + 1, Z, rfl, ⟨hq3, hB3, hZl, Nat.le_refl _, Nat.zero_le _, hs3, (fun e => by cases e), he3, by omega, by omega, by omega, by omega, by omega, hsd, by omega, by omega, hg⟩, b3, Nat.le_refl _, by omega⟩
theorem newReader_any (K : SK) (eb : Addr) (s d : Nat) (l : List UInt8) (w : World) (hs : SrcAt K w s d l) (hsd : d ≠ s) (he : w.cell? ⟨2, 0, none⟩ = some (errV eb)) (hg : 2 ≠ s) :
    Calls Tryd.prog 38 #[.iface (srcT K) (.pointer (some ⟨s, 0, none⟩))] w (NewPost K eb s d l w) := by
  go_enter Tryd.func38, Tryd.ntmps38
  go_wp2_with fail
  refine (newReaderSize_any K eb s d l w hs hsd he hg).mono ?_; rintro e w2 ⟨q, B, bs, rfl, h, hb, hq, hB⟩
  go_wp2_with fail
  go_ret
  exact ⟨q, B, bs, rfl, h, hb, hq, hB⟩
end Go.Proofs.YtgplcbobomainaaDoor
