/-
  bufio: what a Reader holds; readErr; fill.
-/
import Derived.Test.YtgplcbobomainaaDoorRdN
import Derived.Deep.RegionHeld3
import Derived.Deep.DrawnRows
namespace Go.Proofs.YtgplcbobomainaaDoor
open Go.RowKit
set_option linter.unusedVariables false
set_option linter.unusedSimpArgs false

inductive SK where
  | own | byt
def SrcAt : SK → World → Nat → Nat → List UInt8 → Prop
  | .own => OwnAt
  | .byt => BytAt
def srcT : SK → TypeId
  | .own => 51
  | .byt => 73
def srcF : SK → FuncId
  | .own => 81
  | .byt => 84

theorem OwnAt.keep {w w' : World} {s d : Nat} {l : List UInt8} (h : OwnAt w s d l) (hz : w.heap.size ≤ w'.heap.size) (h1 : w'.heap[s]? = w.heap[s]?) (h2 : w'.heap[d]? = w.heap[d]?) : OwnAt w' s d l := by
  obtain ⟨A, c, m, hs, hm1, hm2, hl, hc, hb⟩ := h
  exact ⟨A, c, m, h1.trans hs, hm1, hm2, hl, hc, hb.keep hz h2⟩
theorem BytAt.keep {w w' : World} {s d : Nat} {l : List UInt8} (h : BytAt w s d l) (hz : w.heap.size ≤ w'.heap.size) (h1 : w'.heap[s]? = w.heap[s]?) (h2 : w'.heap[d]? = w.heap[d]?) : BytAt w' s d l := by
  obtain ⟨A, c, i, full, pr, hs, hi, hl, hc, hb, e⟩ := h
  exact ⟨A, c, i, full, pr, h1.trans hs, hi, hl, hc, hb.keep hz h2, e⟩
theorem SrcAt.keep {K : SK} {w w' : World} {s d : Nat} {l : List UInt8} (h : SrcAt K w s d l) (hz : w.heap.size ≤ w'.heap.size) (h1 : w'.heap[s]? = w.heap[s]?) (h2 : w'.heap[d]? = w.heap[d]?) : SrcAt K w' s d l := by
  cases K
  · exact OwnAt.keep h hz h1 h2
  · exact BytAt.keep h hz h1 h2
theorem OwnAt.lt {w : World} {s d : Nat} {l : List UInt8} (h : OwnAt w s d l) : s < w.heap.size ∧ d < w.heap.size := by
  obtain ⟨A, c, m, hs, hm1, hm2, hl, hc, hb⟩ := h
  exact ⟨row_lt hs, hb.lt⟩
theorem BytAt.lt {w : World} {s d : Nat} {l : List UInt8} (h : BytAt w s d l) : s < w.heap.size ∧ d < w.heap.size := by
  obtain ⟨A, c, i, full, pr, hs, hi, hl, hc, hb, e⟩ := h
  exact ⟨row_lt hs, hb.lt⟩
theorem SrcAt.lt {K : SK} {w : World} {s d : Nat} {l : List UInt8} (h : SrcAt K w s d l) : s < w.heap.size ∧ d < w.heap.size := by
  cases K
  · exact OwnAt.lt h
  · exact BytAt.lt h

theorem srcRead_any (K : SK) (eb : Addr) (s d B n L C : Nat) (bs l : List UInt8) (w : World) (he : w.cell? ⟨2, 0, none⟩ = some (errV eb)) (hs : SrcAt K w s d l) (hB : w.heap[B]? = some (.cells (bv bs).toArray 5 (0, 0)))
    (hsB : s ≠ B) (hdB : d ≠ B) (hds : d ≠ s) (hL : 1 ≤ L) (hC : L ≤ C) (hn : n + L ≤ bs.length) (hb : bs.length ≤ 4096) (hCm : C ≤ 4096) :
    Calls Tryd.prog (srcF K) #[.pointer (some ⟨s, 0, none⟩), .slice (some ⟨B, n, none⟩) L C] w (ReadPost eb B n bs l L (fun w' l' => SrcAt K w' s d l') [s, B] w) := by
  cases K
  · exact ownRead_any eb s d B n L C bs l w he hs hB hsB hdB hds hL hC hn hb hCm
  · exact bytRead_any eb s d B n L C bs l w he hs hB hsB hdB hds hL hC hn hb hCm

def errP (eb : Addr) (pe : Bool) : Value := if pe = true then errV eb else .nilIface
/-- The fields of a bufio.Reader. -/
def bufCs (K : SK) (B s r n : Nat) (er : Value) (lb lr : Int) : Array Value :=
  #[.slice (some ⟨B, 0, none⟩) 4096 4096, .iface (srcT K) (.pointer (some ⟨s, 0, none⟩)), .int .i64 (r : Nat), .int .i64 (n : Nat), er, .int .i64 lb, .int .i64 lr]
structure BufAt (K : SK) (eb : Addr) (q B s d r n : Nat) (bs l : List UInt8) (pe : Bool) (lb lr : Int) (w : World) : Prop where
  qrow : w.heap[q]? = some (.cells (bufCs K B s r n (errP eb pe) lb lr) 92 (0, 0))
  brow : w.heap[B]? = some (.cells (bv bs).toArray 5 (0, 0))
  blen : bs.length = 4096
  rn : r ≤ n
  n4 : n ≤ 4096
  src : SrcAt K w s d l
  pend : pe = true → l = []
  eof : w.cell? ⟨2, 0, none⟩ = some (errV eb)
  qB : q ≠ B
  qs : q ≠ s
  qd : q ≠ d
  sB : s ≠ B
  dB : d ≠ B
  ds : d ≠ s
  gq : 2 ≠ q
  gB : 2 ≠ B
  gs : 2 ≠ s

/-- One of the reader's own fields is written. -/
theorem BufAt.put {K : SK} {eb : Addr} {q B s d r n r' n' : Nat} {bs l : List UInt8} {pe pe' : Bool} {lb lr lb' lr' : Int} {w : World} (h : BufAt K eb q B s d r n bs l pe lb lr w) (i : Nat) (v : Value)
    (hv : (bufCs K B s r n (errP eb pe) lb lr).setIfInBounds i v = bufCs K B s r' n' (errP eb pe') lb' lr') (h1 : r' ≤ n') (h2 : n' ≤ 4096) (h3 : pe' = true → l = []) : BufAt K eb q B s d r' n' bs l pe' lb' lr' (w.setCell ⟨q, i, none⟩ v) := by
  have hz : w.heap.size ≤ (w.setCell ⟨q, i, none⟩ v).heap.size := by simp [World.setCell]
  have hk : ∀ k, k ≠ q → (w.setCell ⟨q, i, none⟩ v).heap[k]? = w.heap[k]? := fun k hk => Below.heap_setCell _ _ _ _ hk
  exact ⟨by rw [heap_setCell_same w q i _ _ v h.qrow, hv], (hk B (Ne.symm h.qB)).trans h.brow, h.blen, h1, h2, h.src.keep hz (hk s (Ne.symm h.qs)) (hk d (Ne.symm h.qd)), h3,
    (World.cell?_of_block (a := ⟨2, 0, none⟩) (hk _ h.gq)).trans h.eof, h.qB, h.qs, h.qd, h.sB, h.dB, h.ds, h.gq, h.gB, h.gs⟩
theorem BufAt.slide {K : SK} {eb : Addr} {q B s d n : Nat} {bs l : List UInt8} {pe : Bool} {lb lr : Int} {w : World} (h : BufAt K eb q B s d n n bs l pe lb lr w) :
    BufAt K eb q B s d 0 0 bs l pe lb lr ((w.setCell ⟨q, 3, none⟩ (.int .i64 0)).setCell ⟨q, 2, none⟩ (.int .i64 0)) := by
  have hz : w.heap.size ≤ ((w.setCell ⟨q, 3, none⟩ (.int .i64 0)).setCell ⟨q, 2, none⟩ (.int .i64 0)).heap.size := by simp [World.setCell]
  have hk : ∀ k, k ≠ q → ((w.setCell ⟨q, 3, none⟩ (.int .i64 0)).setCell ⟨q, 2, none⟩ (.int .i64 0)).heap[k]? = w.heap[k]? := fun k hk => (Below.heap_setCell _ _ _ _ hk).trans (Below.heap_setCell _ _ _ _ hk)
  exact ⟨heap_setCell_same _ q 2 _ _ _ (heap_setCell_same w q 3 _ _ _ h.qrow), (hk B (Ne.symm h.qB)).trans h.brow, h.blen, Nat.le_refl _, Nat.zero_le _, h.src.keep hz (hk s (Ne.symm h.qs)) (hk d (Ne.symm h.qd)), h.pend,
    (World.cell?_of_block (a := ⟨2, 0, none⟩) (hk _ h.gq)).trans h.eof, h.qB, h.qs, h.qd, h.sB, h.dB, h.ds, h.gq, h.gB, h.gs⟩
theorem BufAt.drewN {K : SK} {eb : Addr} {q B s d r n : Nat} {bs l : List UInt8} {pe : Bool} {lb lr : Int} {w : World} (h : BufAt K eb q B s d r n bs l pe lb lr w) (m : Nat) : BufAt K eb q B s d r n bs l pe lb lr (w.drewN m) :=
  ⟨h.qrow, h.brow, h.blen, h.rn, h.n4, h.src.keep (Fr.of_drawn (own := []) ⟨m, rfl⟩).size rfl rfl, h.pend, h.eof, h.qB, h.qs, h.qd, h.sB, h.dB, h.ds, h.gq, h.gB, h.gs⟩
theorem BufAt.drew {K : SK} {eb : Addr} {q B s d r n : Nat} {bs l : List UInt8} {pe : Bool} {lb lr : Int} {w : World} (h : BufAt K eb q B s d r n bs l pe lb lr w) : BufAt K eb q B s d r n bs l pe lb lr w.drew :=
  ⟨h.qrow, h.brow, h.blen, h.rn, h.n4, h.src.keep (Nat.le_refl _) rfl rfl, h.pend, h.eof, h.qB, h.qs, h.qd, h.sB, h.dB, h.ds, h.gq, h.gB, h.gs⟩
/-- The fields, for the walk. -/
theorem BufAt.cells {K : SK} {eb : Addr} {q B s d r n : Nat} {bs l : List UInt8} {pe : Bool} {lb lr : Int} {w : World} (h : BufAt K eb q B s d r n bs l pe lb lr w) :
    w.cell? ⟨q, 0, none⟩ = some (.slice (some ⟨B, 0, none⟩) 4096 4096) ∧ w.cell? ⟨q, 1, none⟩ = some (.iface (srcT K) (.pointer (some ⟨s, 0, none⟩))) ∧ w.cell? ⟨q, 2, none⟩ = some (.int .i64 (r : Nat)) ∧
    w.cell? ⟨q, 3, none⟩ = some (.int .i64 (n : Nat)) ∧ w.cell? ⟨q, 4, none⟩ = some (errP eb pe) ∧ w.cell? ⟨q, 5, none⟩ = some (.int .i64 lb) ∧ w.cell? ⟨q, 6, none⟩ = some (.int .i64 lr) :=
  ⟨cells_row h.qrow 0, cells_row h.qrow 1, cells_row h.qrow 2, cells_row h.qrow 3, cells_row h.qrow 4, cells_row h.qrow 5, cells_row h.qrow 6⟩
theorem BufAt.thaw {K : SK} {eb : Addr} {q B s d r n : Nat} {bs l : List UInt8} {pe : Bool} {lb lr : Int} {w : World} (h : BufAt K eb q B s d r n bs l pe lb lr w) :
    w.frozen? ⟨q, 2, none⟩ = false ∧ w.frozen? ⟨q, 3, none⟩ = false ∧ w.frozen? ⟨q, 4, none⟩ = false ∧ w.frozen? ⟨q, 5, none⟩ = false ∧ w.frozen? ⟨q, 6, none⟩ = false :=
  ⟨row_thaw h.qrow 2, row_thaw h.qrow 3, row_thaw h.qrow 4, row_thaw h.qrow 5, row_thaw h.qrow 6⟩
/-- What is still to be read. -/
def unread (r n : Nat) (bs l : List UInt8) : List UInt8 := (bs.drop r).take (n - r) ++ l

/-- readErr. -/
theorem readErr_any {K : SK} {eb : Addr} {q B s d r n : Nat} {bs l : List UInt8} {pe : Bool} {lb lr : Int} {w : World} (h : BufAt K eb q B s d r n bs l pe lb lr w) :
    Calls Tryd.prog 60 #[.pointer (some ⟨q, 0, none⟩)] w fun e w' => e = .returned (errP eb pe) ∧ BufAt K eb q B s d r n bs l false lb lr w' ∧ Fr [q, B, s] w w' := by
  obtain ⟨c0, c1, c2, c3, c4, c5, c6⟩ := h.cells
  obtain ⟨f2, f3, f4, f5, f6⟩ := h.thaw
  go_enter Tryd.func60, Tryd.ntmps60
  go_wp2_with fail
  go_ret
  exact ⟨rfl, h.put 4 .nilIface rfl h.rn h.n4 (fun e => by cases e), (Fr.refl _ _).setCell (p := ⟨q, 4, none⟩) (by simp) _⟩


theorem BufAt.moved {K : SK} {eb : Addr} {q B s d r n : Nat} {bs l bs' l' : List UInt8} {pe : Bool} {lb lr : Int} {w w' : World} (h : BufAt K eb q B s d r n bs l pe lb lr w) (f : Fr [s, B] w w') (hB : w'.heap[B]? = some (.cells (bv bs').toArray 5 (0, 0))) (hl : bs'.length = 4096)
    (hs : SrcAt K w' s d l') (hp : pe = true → l' = []) : BufAt K eb q B s d r n bs' l' pe lb lr w' := by
  have hk : ∀ k, k < w.heap.size → k ≠ s → k ≠ B → w'.heap[k]? = w.heap[k]? := fun k h1 h2 h3 => f.block k h1 (by simp [h2, h3])
  exact ⟨(hk q (row_lt h.qrow) h.qs h.qB).trans h.qrow, hB, hl, h.rn, h.n4, hs, hp,
    (World.cell?_of_block (a := ⟨2, 0, none⟩) (hk _ (World.block_lt_of_cell? w _ h.eof) h.gs h.gB)).trans h.eof, h.qB, h.qs, h.qd, h.sB, h.dB, h.ds, h.gq, h.gB, h.gs⟩
theorem mem_own {q B s : Nat} : ∀ k, k ∈ [s, B] → k ∈ [q, B, s] := by intro k hk; simp at hk ⊢; rcases hk with h | h <;> simp [h]
theorem BufAt.readSome {K : SK} {eb : Addr} {q B s d n : Nat} {bs l : List UInt8} {lb lr : Int} {w : World} (h : BufAt K eb q B s d 0 n bs l false lb lr w) (hn : n < 4096) (hl : 0 < l.length) :
    Calls Tryd.prog (srcF K) #[.pointer (some ⟨s, 0, none⟩), .slice (some ⟨B, n, none⟩) (4096 - n) (4096 - n)] w fun e w' => ∃ k : Nat, 0 < k ∧ n + k ≤ 4096 ∧ k ≤ l.length ∧ e = .returned (.tuple #[.int .i64 (k : Nat), .nilIface]) ∧
      BufAt K eb q B s d 0 n (bs.take n ++ l.take k ++ bs.drop (n + k)) (l.drop k) false lb lr w' ∧ Fr [q, B, s] w w' := by
  refine (srcRead_any K eb s d B n (4096 - n) (4096 - n) bs l w h.eof h.src h.brow h.sB h.dB h.ds (by omega) (Nat.le_refl _) (by rw [h.blen]; omega) (by rw [h.blen]; omega) (by omega)).mono ?_
  rintro e w' (⟨h0, _⟩ | ⟨k, hk0, hkL, hkl, he, hs, hf, hB⟩)
  · subst h0; simp at hl
  · refine ⟨k, hk0, by omega, hkl, he, h.moved hf hB ?_ hs (fun e => by cases e), hf.mono mem_own⟩
    simp only [List.length_append, List.length_take, List.length_drop, h.blen]; omega
theorem BufAt.readNone {K : SK} {eb : Addr} {q B s d n : Nat} {bs : List UInt8} {lb lr : Int} {w : World} (h : BufAt K eb q B s d 0 n bs [] false lb lr w) (hn : n < 4096) :
    Calls Tryd.prog (srcF K) #[.pointer (some ⟨s, 0, none⟩), .slice (some ⟨B, n, none⟩) (4096 - n) (4096 - n)] w fun e w' => e = .returned (.tuple #[.int .i64 0, errV eb]) ∧
      BufAt K eb q B s d 0 n bs [] false lb lr w' ∧ Fr [q, B, s] w w' := by
  refine (srcRead_any K eb s d B n (4096 - n) (4096 - n) bs [] w h.eof h.src h.brow h.sB h.dB h.ds (by omega) (Nat.le_refl _) (by rw [h.blen]; omega) (by rw [h.blen]; omega) (by omega)).mono ?_
  rintro e w' (⟨_, he, hs, hf, hB⟩ | ⟨k, hk0, hkL, hkl, he, hs, hf, hB⟩)
  · exact ⟨he, h.moved hf (hB.trans h.brow) h.blen hs (fun _ => rfl), hf.mono mem_own⟩
  · simp at hkl; omega
theorem BufAt.keepN {K : SK} {eb : Addr} {q B s d r n : Nat} {bs l : List UInt8} {pe : Bool} {lb lr : Int} {w : World} (h : BufAt K eb q B s d r n bs l pe lb lr w) : w.cell? ⟨q, 0, none⟩ = some (.slice (some ⟨B, 0, none⟩) 4096 4096) ∧ w.cell? ⟨q, 1, none⟩ = some (.iface (srcT K) (.pointer (some ⟨s, 0, none⟩))) ∧ w.cell? ⟨q, 3, none⟩ = some (.int .i64 (n : Nat)) := ⟨h.cells.1, h.cells.2.1, h.cells.2.2.2.1⟩

def FillPost (K : SK) (eb : Addr) (q B s d r n : Nat) (bs l : List UInt8) (w : World) (e : Ending) (w' : World) : Prop :=
  e = .returned (.tuple #[]) ∧ Fr [q, B, s] w w' ∧ ∃ n' bs' l' pe lb lr, BufAt K eb q B s d 0 n' bs' l' pe lb lr w' ∧ unread 0 n' bs' l' = unread r n bs l ∧ ((l = [] ∧ pe = true ∧ n' = n - r) ∨ (pe = false ∧ n - r < n'))
/-- What was not read has been moved to the begin of the buffer. -/
def Slid (K : SK) (eb : Addr) (q B s d m : Nat) (l un : List UInt8) (w0 w : World) : Prop :=
  ∃ n bs lb lr, BufAt K eb q B s d 0 n bs l false lb lr w ∧ n = m ∧ unread 0 n bs l = un ∧ Fr [q, B, s] w0 w
theorem unread_more {n k : Nat} {bs l : List UInt8} (hn : n + k ≤ bs.length) (hk : k ≤ l.length) : unread 0 (n + k) (bs.take n ++ l.take k ++ bs.drop (n + k)) (l.drop k) = unread 0 n bs l := by
  unfold unread
  simp only [List.drop_zero, Nat.sub_zero]
  have h1 : (bs.take n ++ l.take k).length = n + k := by simp only [List.length_append, List.length_take]; omega
  rw [List.take_append_of_le_length (by rw [h1]; exact Nat.le_refl _), List.take_of_length_le (by rw [h1]; exact Nat.le_refl _), List.append_assoc, List.take_append_drop]

set_option maxRecDepth 100000 in
set_option maxHeartbeats 1000000 in
theorem fill_own {eb : Addr} {q B s d r n0 : Nat} {bs l : List UInt8} {lb lr : Int} {w0 : World} (h0 : BufAt .own eb q B s d r n0 bs l false lb lr w0) (hr : r = 0 ∨ r = n0) (hn0 : n0 - r < 4096) :
    Calls Tryd.prog 59 #[.pointer (some ⟨q, 0, none⟩)] w0 (FillPost .own eb q B s d r n0 bs l w0) := by
  obtain ⟨c0, c1, c2, c3, c4, c5, c6⟩ := h0.cells
  have hm : ∀ w : World, (method 225 51 (.pointer (some ⟨s, 0, none⟩)) "Read").run Tryd.prog w = .ok (81, .pointer (some ⟨s, 0, none⟩)) w := fun _ => by kernel_rfl
  have hr4 : r ≤ 4096 := Nat.le_trans h0.rn h0.n4
  have HM := Lib.hid hm
  clear hm
  unfold srcT at *
  have HR := Lib.hid hr
  clear hr
  obtain ⟨c9, hc9⟩ : ∃ c9, decide (0 < r) = c9 := ⟨_, rfl⟩
  go_enter Tryd.func59, Tryd.ntmps59
  go_upto_if 9 with (fail)
  go_cut [] from 10 (fun wx => Slid .own eb q B s d (n0 - r) l (unread r n0 bs l) w0 wx)
  case first =>
    rcases Nat.eq_zero_or_pos r with rfl | hr0
    · obtain rfl : c9 = false := by rw [← hc9]; rfl
      clear hc9
      go_wp2_with fail
      go_meet
      case rel => exact ⟨n0, bs, lb, lr, h0, rfl, rfl, Fr.refl _ _⟩
    · obtain rfl : r = n0 := by have := HR.out; omega
      obtain rfl : c9 = true := by rw [← hc9]; exact decide_eq_true hr0
      clear hc9
      have hr00 : (0 : Int) < (r : Int) := by omega
      have hr1 : (r : Int) ≤ (4096 : Int) := by omega
      rcases Nat.lt_or_ge r 4096 with h4 | h4
      · have hcr : ¬ 4096 = r := by omega
        go_wp2_with fail
        go_still_tail 17, (by kernel_rfl)
        change wpList _ _ _ _ _ w0.drew
        refine wpList_copy_nothing rfl (.tmp 13) (.tmp 26) 22 22 rfl 5 Tryd.underlying22 u8_size (some ⟨B, 0, none⟩) _ 4096 4096 0 _ rfl rfl rfl ?_
        go_wp2_with fail
        have hD := h0.drew
        have hF := (Fr.refl [q, B, s] w0).drew
        clear c0 c1 c2 c3 c4 c5 c6
        generalize w0.drew = w2 at *
        obtain ⟨c0, c1, c2, c3, c4, c5, c6⟩ := hD.cells
        have f3 : w2.frozen? ⟨q, 3, none⟩ = false := row_thaw hD.qrow 3
        have hq3 := heap_setCell_same w2 q 3 _ _ (.int .i64 0) hD.qrow
        have c2' : (w2.setCell ⟨q, 3, none⟩ (.int .i64 0)).cell? ⟨q, 2, none⟩ = some (.int .i64 _) := cells_row hq3 2
        have f2' : (w2.setCell ⟨q, 3, none⟩ (.int .i64 0)).frozen? ⟨q, 2, none⟩ = false := row_thaw hq3 2
        clear hq3
        go_still_tail 11, (by kernel_rfl)
        change wpList _ _ _ _ _ w2.drew
        go_wp2_with fail
        go_meet
        case rel => exact ⟨0, bs, lb, lr, hD.slide.drew, by omega, by unfold unread; simp, ((hF.setCell (p := ⟨q, 3, none⟩) (by simp) _).setCell (p := ⟨q, 2, none⟩) (by simp) _).drew⟩
      · obtain rfl : r = 4096 := by omega
        go_wp2_with fail
        go_still_tail 17, (by kernel_rfl)
        change wpList _ _ _ _ _ w0.drew
        refine wpList_copy_nothing rfl (.tmp 13) (.tmp 26) 22 22 rfl 5 Tryd.underlying22 u8_size (some ⟨B, 0, none⟩) _ 4096 4096 0 _ rfl rfl rfl ?_
        go_wp2_with fail
        have hD := h0.drew
        have hF := (Fr.refl [q, B, s] w0).drew
        clear c0 c1 c2 c3 c4 c5 c6
        generalize w0.drew = w2 at *
        obtain ⟨c0, c1, c2, c3, c4, c5, c6⟩ := hD.cells
        have f3 : w2.frozen? ⟨q, 3, none⟩ = false := row_thaw hD.qrow 3
        have hq3 := heap_setCell_same w2 q 3 _ _ (.int .i64 0) hD.qrow
        have c2' : (w2.setCell ⟨q, 3, none⟩ (.int .i64 0)).cell? ⟨q, 2, none⟩ = some (.int .i64 _) := cells_row hq3 2
        have f2' : (w2.setCell ⟨q, 3, none⟩ (.int .i64 0)).frozen? ⟨q, 2, none⟩ = false := row_thaw hq3 2
        clear hq3
        go_still_tail 11, (by kernel_rfl)
        change wpList _ _ _ _ _ w2.drew
        go_wp2_with fail
        go_meet
        case rel => exact ⟨0, bs, lb, lr, hD.slide.drew, by omega, by unfold unread; simp, ((hF.setCell (p := ⟨q, 3, none⟩) (by simp) _).setCell (p := ⟨q, 2, none⟩) (by simp) _).drew⟩
  case rest =>
  clear hc9
  obtain ⟨n, bs, lb, lr, h, hnn, hun, hF0⟩ := hcut
  obtain ⟨w, rfl⟩ : ∃ w : World, w = wc := ⟨_, rfl⟩
  have hn : n < 4096 := by omega
  have HUN := Lib.hid hun
  have HNN := Lib.hid hnn
  clear hun hnn
  have hm := HM.out
  clear c0 c1 c2 c3 c4 c5 c6
  obtain ⟨c0, c1, c2, c3, c4, c5, c6⟩ := h.cells
  have hdec : decide ((4096 : Int) ≤ (n : Int)) = false := by rw [decide_eq_false_iff_not]; omega
  have hi0 : (0 : Int) ≤ (n : Int) := by omega
  have hi1 : (n : Int) ≤ (4096 : Int) := by omega
  have hcn : ¬ 4096 = n := by omega
  unfold srcT at *
  go_wp2_with fail
  go_quiet (fail)
  go_wp2_with fail
  have hD := h.drewN nq
  have hFd : Fr [q, B, s] w (w.drewN nq) := Fr.of_drawn ⟨_, rfl⟩
  have hFd1 := hFd.drew
  generalize w.drewN nq = w1 at *
  clear c0 c1 c2 c3 c4 c5 c6
  obtain ⟨c0, c1, c2, c3, c4, c5, c6⟩ := hD.cells
  unfold srcT at *
  refine wp_loop_rounds 1 ?_; rw [rounds_succ]
  go_wp2_with fail
  rcases Nat.eq_zero_or_pos l.length with hl0 | hl0
  · obtain rfl : l = [] := List.eq_nil_of_length_eq_zero hl0
    go_region_held3 (fun w' => w'.cell? ⟨q, 0, none⟩ = some (.slice (some ⟨B, 0, none⟩) 4096 4096) ∧ w'.cell? ⟨q, 1, none⟩ = some (.iface 51 (.pointer (some ⟨s, 0, none⟩))) ∧ w'.cell? ⟨q, 3, none⟩ = some (.int .i64 (n : Nat))) (first | go_keep | exact BufAt.keepN ‹_›)
      (first | (go_at_call 81; refine (BufAt.readNone (K := .own) hD.drew hn).mono ?_; rintro e w2 ⟨rfl, hR, hFr⟩))
    clear c0 c1 c2 c3 c4 c5 c6
    obtain ⟨c0, c1, c2, c3, c4, c5, c6⟩ := hR.cells
    obtain ⟨f2, f3, f4, f5, f6⟩ := hR.thaw
    go_upto_region 13 with fail
    have hR3 := hR.put (r' := 0) (n' := n) (pe' := false) (lb' := lb) (lr' := lr) 3 (.int .i64 (n : Nat)) rfl (Nat.zero_le _) hR.n4 (fun e => by cases e)
    have hF3 := hFr.setCell (p := ⟨q, 3, none⟩) (by simp) (.int .i64 (n : Nat))
    clear c0 c1 c2 c3 c4 c5 c6 f2 f3 f4 f5 f6 hR hFr
    generalize w2.setCell ⟨q, 3, none⟩ _ = w3 at *
    obtain ⟨c0, c1, c2, c3, c4, c5, c6⟩ := hR3.cells
    obtain ⟨f2, f3, f4, f5, f6⟩ := hR3.thaw
    unfold errV at *
    go_wp2_with fail
    refine bodyPost_ret (v := .tuple #[]) (by simp [results, Tryd.results59, go_sem]) rfl ⟨rfl, (hF0.trans hFd1).trans (hF3.setCell (p := ⟨q, 4, none⟩) (by simp) _), n, bs, [], true, lb, lr, hR3.put 4 _ rfl (Nat.zero_le _) hR3.n4 (fun _ => rfl), HUN.out, .inl ⟨rfl, rfl, HNN.out⟩⟩
  · go_region_held3 (fun w' => w'.cell? ⟨q, 0, none⟩ = some (.slice (some ⟨B, 0, none⟩) 4096 4096) ∧ w'.cell? ⟨q, 1, none⟩ = some (.iface 51 (.pointer (some ⟨s, 0, none⟩))) ∧ w'.cell? ⟨q, 3, none⟩ = some (.int .i64 (n : Nat))) (first | go_keep | exact BufAt.keepN ‹_›)
      (first | (go_at_call 81; refine (BufAt.readSome (K := .own) hD.drew hn hl0).mono ?_; rintro e w2 ⟨k, hk0, hk4, hkl, rfl, hR, hFr⟩))
    clear c0 c1 c2 c3 c4 c5 c6
    obtain ⟨c0, c1, c2, c3, c4, c5, c6⟩ := hR.cells
    obtain ⟨f2, f3, f4, f5, f6⟩ := hR.thaw
    have hk00 : (0 : Int) ≤ (k : Int) := by omega
    go_upto_region 13 with fail
    have hR3 := hR.put (r' := 0) (n' := n + k) (pe' := false) (lb' := lb) (lr' := lr) 3 (.int .i64 ((n : Int) + k)) (by rw [← Int.natCast_add]; rfl) (Nat.zero_le _) hk4 (fun e => by cases e)
    have hF3 := hFr.setCell (p := ⟨q, 3, none⟩) (by simp) (.int .i64 ((n : Int) + k))
    clear c0 c1 c2 c3 c4 c5 c6 f2 f3 f4 f5 f6 hR hFr
    generalize w2.setCell ⟨q, 3, none⟩ _ = w3 at *
    obtain ⟨c0, c1, c2, c3, c4, c5, c6⟩ := hR3.cells
    obtain ⟨f2, f3, f4, f5, f6⟩ := hR3.thaw
    go_wp2_with fail
    refine bodyPost_ret (v := .tuple #[]) (by simp [results, Tryd.results59, go_sem]) rfl ⟨rfl, (hF0.trans hFd1).trans hF3, n + k, _, _, false, lb, lr, hR3, (unread_more (by rw [h.blen]; exact hk4) hkl).trans HUN.out, .inr ⟨rfl, by have := HNN.out; omega⟩⟩

set_option maxRecDepth 100000 in
set_option maxHeartbeats 1000000 in
theorem fill_byt {eb : Addr} {q B s d r n0 : Nat} {bs l : List UInt8} {lb lr : Int} {w0 : World} (h0 : BufAt .byt eb q B s d r n0 bs l false lb lr w0) (hr : r = 0 ∨ r = n0) (hn0 : n0 - r < 4096) :
    Calls Tryd.prog 59 #[.pointer (some ⟨q, 0, none⟩)] w0 (FillPost .byt eb q B s d r n0 bs l w0) := by
  obtain ⟨c0, c1, c2, c3, c4, c5, c6⟩ := h0.cells
  have hm : ∀ w : World, (method 225 73 (.pointer (some ⟨s, 0, none⟩)) "Read").run Tryd.prog w = .ok (84, .pointer (some ⟨s, 0, none⟩)) w := fun _ => by kernel_rfl
  have hr4 : r ≤ 4096 := Nat.le_trans h0.rn h0.n4
  have HM := Lib.hid hm
  clear hm
  unfold srcT at *
  have HR := Lib.hid hr
  clear hr
  obtain ⟨c9, hc9⟩ : ∃ c9, decide (0 < r) = c9 := ⟨_, rfl⟩
  go_enter Tryd.func59, Tryd.ntmps59
  go_upto_if 9 with (fail)
  go_cut [] from 10 (fun wx => Slid .byt eb q B s d (n0 - r) l (unread r n0 bs l) w0 wx)
  case first =>
    rcases Nat.eq_zero_or_pos r with rfl | hr0
    · obtain rfl : c9 = false := by rw [← hc9]; rfl
      clear hc9
      go_wp2_with fail
      go_meet
      case rel => exact ⟨n0, bs, lb, lr, h0, rfl, rfl, Fr.refl _ _⟩
    · obtain rfl : r = n0 := by have := HR.out; omega
      obtain rfl : c9 = true := by rw [← hc9]; exact decide_eq_true hr0
      clear hc9
      have hr00 : (0 : Int) < (r : Int) := by omega
      have hr1 : (r : Int) ≤ (4096 : Int) := by omega
      rcases Nat.lt_or_ge r 4096 with h4 | h4
      · have hcr : ¬ 4096 = r := by omega
        go_wp2_with fail
        go_still_tail 17, (by kernel_rfl)
        change wpList _ _ _ _ _ w0.drew
        refine wpList_copy_nothing rfl (.tmp 13) (.tmp 26) 22 22 rfl 5 Tryd.underlying22 u8_size (some ⟨B, 0, none⟩) _ 4096 4096 0 _ rfl rfl rfl ?_
        go_wp2_with fail
        have hD := h0.drew
        have hF := (Fr.refl [q, B, s] w0).drew
        clear c0 c1 c2 c3 c4 c5 c6
        generalize w0.drew = w2 at *
        obtain ⟨c0, c1, c2, c3, c4, c5, c6⟩ := hD.cells
        have f3 : w2.frozen? ⟨q, 3, none⟩ = false := row_thaw hD.qrow 3
        have hq3 := heap_setCell_same w2 q 3 _ _ (.int .i64 0) hD.qrow
        have c2' : (w2.setCell ⟨q, 3, none⟩ (.int .i64 0)).cell? ⟨q, 2, none⟩ = some (.int .i64 _) := cells_row hq3 2
        have f2' : (w2.setCell ⟨q, 3, none⟩ (.int .i64 0)).frozen? ⟨q, 2, none⟩ = false := row_thaw hq3 2
        clear hq3
        go_still_tail 11, (by kernel_rfl)
        change wpList _ _ _ _ _ w2.drew
        go_wp2_with fail
        go_meet
        case rel => exact ⟨0, bs, lb, lr, hD.slide.drew, by omega, by unfold unread; simp, ((hF.setCell (p := ⟨q, 3, none⟩) (by simp) _).setCell (p := ⟨q, 2, none⟩) (by simp) _).drew⟩
      · obtain rfl : r = 4096 := by omega
        go_wp2_with fail
        go_still_tail 17, (by kernel_rfl)
        change wpList _ _ _ _ _ w0.drew
        refine wpList_copy_nothing rfl (.tmp 13) (.tmp 26) 22 22 rfl 5 Tryd.underlying22 u8_size (some ⟨B, 0, none⟩) _ 4096 4096 0 _ rfl rfl rfl ?_
        go_wp2_with fail
        have hD := h0.drew
        have hF := (Fr.refl [q, B, s] w0).drew
        clear c0 c1 c2 c3 c4 c5 c6
        generalize w0.drew = w2 at *
        obtain ⟨c0, c1, c2, c3, c4, c5, c6⟩ := hD.cells
        have f3 : w2.frozen? ⟨q, 3, none⟩ = false := row_thaw hD.qrow 3
        have hq3 := heap_setCell_same w2 q 3 _ _ (.int .i64 0) hD.qrow
        have c2' : (w2.setCell ⟨q, 3, none⟩ (.int .i64 0)).cell? ⟨q, 2, none⟩ = some (.int .i64 _) := cells_row hq3 2
        have f2' : (w2.setCell ⟨q, 3, none⟩ (.int .i64 0)).frozen? ⟨q, 2, none⟩ = false := row_thaw hq3 2
        clear hq3
        go_still_tail 11, (by kernel_rfl)
        change wpList _ _ _ _ _ w2.drew
        go_wp2_with fail
        go_meet
        case rel => exact ⟨0, bs, lb, lr, hD.slide.drew, by omega, by unfold unread; simp, ((hF.setCell (p := ⟨q, 3, none⟩) (by simp) _).setCell (p := ⟨q, 2, none⟩) (by simp) _).drew⟩
  case rest =>
  clear hc9
  obtain ⟨n, bs, lb, lr, h, hnn, hun, hF0⟩ := hcut
  obtain ⟨w, rfl⟩ : ∃ w : World, w = wc := ⟨_, rfl⟩
  have hn : n < 4096 := by omega
  have HUN := Lib.hid hun
  have HNN := Lib.hid hnn
  clear hun hnn
  have hm := HM.out
  clear c0 c1 c2 c3 c4 c5 c6
  obtain ⟨c0, c1, c2, c3, c4, c5, c6⟩ := h.cells
  have hdec : decide ((4096 : Int) ≤ (n : Int)) = false := by rw [decide_eq_false_iff_not]; omega
  have hi0 : (0 : Int) ≤ (n : Int) := by omega
  have hi1 : (n : Int) ≤ (4096 : Int) := by omega
  have hcn : ¬ 4096 = n := by omega
  unfold srcT at *
  go_wp2_with fail
  go_quiet (fail)
  go_wp2_with fail
  have hD := h.drewN nq
  have hFd : Fr [q, B, s] w (w.drewN nq) := Fr.of_drawn ⟨_, rfl⟩
  have hFd1 := hFd.drew
  generalize w.drewN nq = w1 at *
  clear c0 c1 c2 c3 c4 c5 c6
  obtain ⟨c0, c1, c2, c3, c4, c5, c6⟩ := hD.cells
  unfold srcT at *
  refine wp_loop_rounds 1 ?_; rw [rounds_succ]
  go_wp2_with fail
  rcases Nat.eq_zero_or_pos l.length with hl0 | hl0
  · obtain rfl : l = [] := List.eq_nil_of_length_eq_zero hl0
    go_region_held3 (fun w' => w'.cell? ⟨q, 0, none⟩ = some (.slice (some ⟨B, 0, none⟩) 4096 4096) ∧ w'.cell? ⟨q, 1, none⟩ = some (.iface 73 (.pointer (some ⟨s, 0, none⟩))) ∧ w'.cell? ⟨q, 3, none⟩ = some (.int .i64 (n : Nat))) (first | go_keep | exact BufAt.keepN ‹_›)
      (first | (go_at_call 84; refine (BufAt.readNone (K := .byt) hD.drew hn).mono ?_; rintro e w2 ⟨rfl, hR, hFr⟩))
    clear c0 c1 c2 c3 c4 c5 c6
    obtain ⟨c0, c1, c2, c3, c4, c5, c6⟩ := hR.cells
    obtain ⟨f2, f3, f4, f5, f6⟩ := hR.thaw
    go_upto_region 13 with fail
    have hR3 := hR.put (r' := 0) (n' := n) (pe' := false) (lb' := lb) (lr' := lr) 3 (.int .i64 (n : Nat)) rfl (Nat.zero_le _) hR.n4 (fun e => by cases e)
    have hF3 := hFr.setCell (p := ⟨q, 3, none⟩) (by simp) (.int .i64 (n : Nat))
    clear c0 c1 c2 c3 c4 c5 c6 f2 f3 f4 f5 f6 hR hFr
    generalize w2.setCell ⟨q, 3, none⟩ _ = w3 at *
    obtain ⟨c0, c1, c2, c3, c4, c5, c6⟩ := hR3.cells
    obtain ⟨f2, f3, f4, f5, f6⟩ := hR3.thaw
    unfold errV at *
    go_wp2_with fail
    refine bodyPost_ret (v := .tuple #[]) (by simp [results, Tryd.results59, go_sem]) rfl ⟨rfl, (hF0.trans hFd1).trans (hF3.setCell (p := ⟨q, 4, none⟩) (by simp) _), n, bs, [], true, lb, lr, hR3.put 4 _ rfl (Nat.zero_le _) hR3.n4 (fun _ => rfl), HUN.out, .inl ⟨rfl, rfl, HNN.out⟩⟩
  · go_region_held3 (fun w' => w'.cell? ⟨q, 0, none⟩ = some (.slice (some ⟨B, 0, none⟩) 4096 4096) ∧ w'.cell? ⟨q, 1, none⟩ = some (.iface 73 (.pointer (some ⟨s, 0, none⟩))) ∧ w'.cell? ⟨q, 3, none⟩ = some (.int .i64 (n : Nat))) (first | go_keep | exact BufAt.keepN ‹_›)
      (first | (go_at_call 84; refine (BufAt.readSome (K := .byt) hD.drew hn hl0).mono ?_; rintro e w2 ⟨k, hk0, hk4, hkl, rfl, hR, hFr⟩))
    clear c0 c1 c2 c3 c4 c5 c6
    obtain ⟨c0, c1, c2, c3, c4, c5, c6⟩ := hR.cells
    obtain ⟨f2, f3, f4, f5, f6⟩ := hR.thaw
    have hk00 : (0 : Int) ≤ (k : Int) := by omega
    go_upto_region 13 with fail
    have hR3 := hR.put (r' := 0) (n' := n + k) (pe' := false) (lb' := lb) (lr' := lr) 3 (.int .i64 ((n : Int) + k)) (by rw [← Int.natCast_add]; rfl) (Nat.zero_le _) hk4 (fun e => by cases e)
    have hF3 := hFr.setCell (p := ⟨q, 3, none⟩) (by simp) (.int .i64 ((n : Int) + k))
    clear c0 c1 c2 c3 c4 c5 c6 f2 f3 f4 f5 f6 hR hFr
    generalize w2.setCell ⟨q, 3, none⟩ _ = w3 at *
    obtain ⟨c0, c1, c2, c3, c4, c5, c6⟩ := hR3.cells
    obtain ⟨f2, f3, f4, f5, f6⟩ := hR3.thaw
    go_wp2_with fail
    refine bodyPost_ret (v := .tuple #[]) (by simp [results, Tryd.results59, go_sem]) rfl ⟨rfl, (hF0.trans hFd1).trans hF3, n + k, _, _, false, lb, lr, hR3, (unread_more (by rw [h.blen]; exact hk4) hkl).trans HUN.out, .inr ⟨rfl, by have := HNN.out; omega⟩⟩

theorem fill_any {K : SK} {eb : Addr} {q B s d r n : Nat} {bs l : List UInt8} {lb lr : Int} {w : World} (h : BufAt K eb q B s d r n bs l false lb lr w) (hr : r = 0 ∨ r = n) (hn : n - r < 4096) :
    Calls Tryd.prog 59 #[.pointer (some ⟨q, 0, none⟩)] w (FillPost K eb q B s d r n bs l w) := by
  cases K
  · exact fill_own h hr hn
  · exact fill_byt h hr hn
end Go.Proofs.YtgplcbobomainaaDoor
