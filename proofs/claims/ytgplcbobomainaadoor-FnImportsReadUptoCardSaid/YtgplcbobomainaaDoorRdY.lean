/-
  bytes.Equal; a byte order mark; newImportReader.
-/
import Derived.Test.YtgplcbobomainaaDoorRdX
namespace Go.Proofs.YtgplcbobomainaaDoor
open Go.RowKit
set_option linter.unusedVariables false
set_option linter.unusedSimpArgs false

theorem bytesEqual_any (A B : Option Addr) (n m c d : Nat) (xs ys : List UInt8) (hn : xs.length = n) (hm : ys.length = m) (w : World) (hx : Bts w A xs) (hy : Bts w B ys) :
    Calls Tryd.prog 49 #[.slice A n c, .slice B m d] w fun e w' => e = .returned (.bool (xs == ys)) ∧ w = w' := by
  subst hn hm
  have h1 := hx.conv (P := Tryd.prog) (src := 22) (dst := 9) Tryd.underlying22 Tryd.underlying5 Tryd.underlying9 c
  have h2 := hy.conv (P := Tryd.prog) (src := 22) (dst := 9) Tryd.underlying22 Tryd.underlying5 Tryd.underlying9 d
  clear hx hy
  go_enter Tryd.func49, Tryd.ntmps49
  go_wp2
  go_ret
  exact ⟨rfl, rfl⟩
theorem Bts.newRow (w : World) (t : TypeId) (l : List UInt8) (p : Nat × Nat) (cs : Array Value) (h : cs = (bv l).toArray) : Bts (w.alloc (.cells cs t p)) (some ⟨w.heap.size, 0, none⟩) l := by
  subst h
  refine Bts.mk_ (by simp) fun i hi => ?_
  rw [Nat.zero_add]
  have e : (w.alloc (.cells (bv l).toArray t p)).heap[w.heap.size]? = some (.cells (bv l).toArray t p) := heap_alloc_new w _
  rw [cell_of_row _ _ i _ t p e]
  simp [bv, hi]
def BomPost (w : World) (e : Ending) (w' : World) : Prop := ∃ b, e = .returned (.slice (some ⟨b, 0, none⟩) 3 3) ∧ Bts w' (some ⟨b, 0, none⟩) bomL ∧ Below w.heap.size w w'
theorem bomI_any (w : World) : Calls Tryd.prog 50 #[] w (BomPost w) := by
  have hb := Bts.newRow w 5 bomL (0, 0) #[.int .u8 239, .int .u8 187, .int .u8 191] rfl
  have hbe := (Below.refl w.heap.size w).alloc (Nat.le_refl _) (.cells #[.int .u8 239, .int .u8 187, .int .u8 191] 5)
  go_enter Tryd.func50, Tryd.ntmps50
  go_wp2
  exact bodyPost_ret (v := .slice (some ⟨w.heap.size, 0, none⟩) 3 3) (by simp [results, Tryd.results50, go_sem]) rfl ⟨_, rfl, hb, hbe⟩
theorem bomB_any (w : World) : Calls Tryd.prog 63 #[] w (BomPost w) := by
  have hb := Bts.newRow w 5 bomL (0, 0) #[.int .u8 239, .int .u8 187, .int .u8 191] rfl
  have hbe := (Below.refl w.heap.size w).alloc (Nat.le_refl _) (.cells #[.int .u8 239, .int .u8 187, .int .u8 191] 5)
  go_enter Tryd.func63, Tryd.ntmps63
  go_wp2
  exact bodyPost_ret (v := .slice (some ⟨w.heap.size, 0, none⟩) 3 3) (by simp [results, Tryd.results63, go_sem]) rfl ⟨_, rfl, hb, hbe⟩

theorem BufAt.below {K : SK} {eb : Addr} {q B s d r n : Nat} {bs l : List UInt8} {pe : Bool} {lb lr : Int} {w w' : World} (h : BufAt K eb q B s d r n bs l pe lb lr w) (hb : Below w.heap.size w w') : BufAt K eb q B s d r n bs l pe lb lr w' := by
  have hl := h.src.lt
  exact ⟨(hb.block q (row_lt h.qrow)).trans h.qrow, (hb.block B (row_lt h.brow)).trans h.brow, h.blen, h.rn, h.n4, h.src.keep hb.size (hb.block s hl.1) (hb.block d hl.2), h.pend, (hb.cell (p := ⟨2, 0, none⟩) (World.block_lt_of_cell? w _ h.eof)).trans h.eof, h.qB, h.qs, h.qd, h.sB, h.dB, h.ds, h.gq, h.gB, h.gs⟩
theorem BufAt.head {K : SK} {eb : Addr} {q B s d n : Nat} {bs l rest : List UInt8} {pe : Bool} {lb lr : Int} {w : World} (h : BufAt K eb q B s d 0 n bs l pe lb lr w) (hn : 3 ≤ n) (hu : unread 0 n bs l = rest) : Bts w (some ⟨B, 0, none⟩) (rest.take 3) ∧ (rest.take 3).length = 3 ∧ 3 ≤ rest.length := by
  have hn4 := h.n4
  have hbl := h.blen
  have e : rest.take 3 = bs.take 3 := by
    rw [← hu]; unfold unread
    rw [List.drop_zero, Nat.sub_zero, List.take_append_of_le_length (by simp; omega), List.take_take, Nat.min_eq_left hn]
  have hr : 3 ≤ rest.length := by rw [← hu]; unfold unread; simp; omega
  refine ⟨?_, by simp; omega, hr⟩
  rw [e]
  refine Bts.mk_ (row_lt h.brow) fun i hi => ?_
  have hi' : i < bs.length := by simp at hi; omega
  rw [Nat.zero_add, h.byte hi']
  simp

/-- A reader that nothing was read from yet. -/
def StartRest (data : List UInt8) : List UInt8 := if data.take 3 = bomL then data.drop 3 else data
theorem start_rest (data : List UInt8) : start data = { rest := StartRest data, buf := [], peek := 0, err := .no, eof := false, nerr := 0 } := rfl
theorem short_rest {data : List UInt8} (h : data.length < 3) : StartRest data = data := by
  unfold StartRest
  rw [if_neg]
  intro e
  have := congrArg List.length e
  simp [bomL] at this
  omega

namespace GI
/-- Memory in which a reader can be made: what else there is, and where it begins. -/
structure Before (O : Nat → Option Obj) (E : EB) (w0 : World) (q B s d : Nat) (w : World) : Prop where
  below : Below w0.heap.size w0 w
  bq : w0.heap.size ≤ q
  bB : w0.heap.size ≤ B
  bs : w0.heap.size ≤ s
  bd : w0.heap.size ≤ d
  errs : E.Ok 1 0 w0
  keep : ∀ k o, O k = some o → w.heap[k]? = some o ∧ k ≠ q ∧ k ≠ B ∧ k ≠ s ∧ k ≠ d
theorem Before.fr {O : Nat → Option Obj} {E : EB} {w0 : World} {q B s d : Nat} {w w' : World} (h : Before O E w0 q B s d w) (hf : Fr [q, B, s] w w') : Before O E w0 q B s d w' :=
  ⟨h.below.trans (hf.below h.below.size (fun k hk => by simp at hk; have := h.bq; have := h.bB; have := h.bs; omega)), h.bq, h.bB, h.bs, h.bd, h.errs, fun k o ho => by
    obtain ⟨h1, h2, h3, h4, h5⟩ := h.keep k o ho
    exact ⟨(hf.block k (row_lt h1) (by simp [h2, h3, h4])).trans h1, h2, h3, h4, h5⟩⟩
theorem Before.bel {O : Nat → Option Obj} {E : EB} {w0 : World} {q B s d : Nat} {w w' : World} (h : Before O E w0 q B s d w) (hb : Below w.heap.size w w') : Before O E w0 q B s d w' :=
  ⟨h.below.trans (hb.mono h.below.size), h.bq, h.bB, h.bs, h.bd, h.errs, fun k o ho => by
    obtain ⟨h1, h2⟩ := h.keep k o ho
    exact ⟨(hb.block k (row_lt h1)).trans h1, h2⟩⟩
theorem BufSt.below {K : SK} {eb : Addr} {q B s d : Nat} {rest : List UInt8} {w w' : World} (h : BufSt K eb q B s d rest w) (hb : Below w.heap.size w w') : BufSt K eb q B s d rest w' := by
  obtain ⟨r, n, bs, l, pe, lb, lr, h, hu⟩ := h
  exact ⟨r, n, bs, l, pe, lb, lr, h.below hb, hu⟩
theorem BufSt.lt {K : SK} {eb : Addr} {q B s d : Nat} {rest : List UInt8} {w : World} (h : BufSt K eb q B s d rest w) : q < w.heap.size ∧ B < w.heap.size ∧ s < w.heap.size ∧ d < w.heap.size := by
  obtain ⟨r, n, bs, l, pe, lb, lr, h, hu⟩ := h
  exact ⟨row_lt h.qrow, row_lt h.brow, h.src.lt.1, h.src.lt.2⟩
/-- The new reader's box. -/
theorem Rd.new {O : Nat → Option Obj} {E : EB} {w0 : World} {K : SK} {q B s d : Nat} {rest : List UInt8} {w : World} (h : Before O E w0 q B s d w) (hb : BufSt K E.eof q B s d rest w) (hl : rest.length ≤ 4294967296) :
    Rd O E w0 w.heap.size { rest := rest, buf := [], peek := 0, err := .no, eof := false, nerr := 0 } (w.alloc (.cells (rdCs q (.slice none 0 0) 0 .nilIface false 0) 68)) := by
  have hlt := BufSt.lt hb
  have hbel : Below w.heap.size w (w.alloc (.cells (rdCs q (.slice none 0 0) 0 .nilIface false 0) 68)) := (Below.refl _ _).alloc (Nat.le_refl _) _
  have hb' := h.bel hbel
  refine ⟨K, q, B, s, d, .slice none 0 0, heap_alloc_new w _, ⟨rfl, .inl ⟨rfl, rfl⟩⟩, fun g hg => by simp [Value.ownBlock] at hg, BufSt.below hb hbel, by omega, by omega, by omega, by omega, hb'.below, h.below.size, h.bq, h.bB, h.bs, h.bd, h.errs, by simpa using hl, fun k o ho => ?_⟩
  obtain ⟨h1, h2, h3, h4, h5⟩ := hb'.keep k o ho
  have := row_lt (h.keep k o ho).1
  exact ⟨h1, by omega, h2, h3, h4, h5, by simp [Value.ownBlock]⟩
def NewRd (O : Nat → Option Obj) (E : EB) (w0 : World) (data : List UInt8) (e : Ending) (w' : World) : Prop := ∃ p, e = .returned (.pointer (some ⟨p, 0, none⟩)) ∧ Rd O E w0 p (start data) w'

set_option maxRecDepth 100000 in
set_option maxHeartbeats 2000000 in
theorem newImportReader_any {O : Nat → Option Obj} {E : EB} {w0 : World} {K : SK} {q B s d : Nat} {bs data : List UInt8} {lb lr : Int} {w : World} (hb0 : Before O E w0 q B s d w) (h : BufAt K E.eof q B s d 0 0 bs data false lb lr w) (hl : data.length ≤ 4294967296) :
    Calls Tryd.prog 37 #[.pointer (some ⟨q, 0, none⟩)] w (NewRd O E w0 data) := by
  have HL := Lib.hid hl
  clear hl
  go_enter Tryd.func37, Tryd.ntmps37
  go_wp2_with fail
  refine (peek3_any h).mono ?_; rintro e w1 ⟨hF, n, bs1, l1, pe, lb1, lr1, h1, hu, ⟨hn, rfl⟩ | ⟨hs, v, rfl⟩⟩
  · have hb1 := hb0.fr hF
    obtain ⟨hbt, hlen, hdl⟩ := h1.head hn hu
    have HU := Lib.hid hu
    clear hb0 h hF hu
    go_wp2_with fail
    refine (bomI_any _).mono ?_; rintro e w2 ⟨b, rfl, hbm, hbel⟩
    have hb2 := hb1.bel hbel
    have h2 := h1.below hbel
    have hbt2 := hbt.below hbel
    have HLEN := Lib.hid hlen
    clear hb1 h1 hbt hbel hlen
    go_wp2_with fail
    refine (bytesEqual_any _ _ 3 3 _ _ (data.take 3) bomL HLEN.out rfl _ hbt2 hbm).mono ?_; rintro e w3 ⟨rfl, rfl⟩
    cases heq : (data.take 3 == bomL)
    · have HST : Hid (start data = { rest := data, buf := [], peek := 0, err := .no, eof := false, nerr := 0 }) := Lib.hid (by rw [start_rest]; unfold StartRest; rw [if_neg (by simpa using heq)])
      clear heq
      have hR := Rd.new hb2 ⟨_, _, _, _, _, _, _, h2, HU.out⟩ HL.out
      unfold rdCs at hR
      go_wp2_with fail
      go_ret
      refine ⟨_, rfl, ?_⟩
      rw [HST.out]
      exact hR
    · have HST : Hid (start data = { rest := data.drop 3, buf := [], peek := 0, err := .no, eof := false, nerr := 0 }) := Lib.hid (by rw [start_rest]; unfold StartRest; rw [if_pos (by simpa using heq)])
      clear heq
      go_wp2_with fail
      refine (discard3_any h2 hn).mono ?_; rintro e w4 ⟨⟨v, rfl⟩, hB4, hF4⟩
      rw [HU.out] at hB4
      have hR := Rd.new (hb2.fr hF4) hB4 (by have := HL.out; rw [List.length_drop]; omega)
      unfold rdCs at hR
      clear hb2 h2 hbt2 hbm hB4 hF4
      go_wp2_with fail
      go_ret
      refine ⟨_, rfl, ?_⟩
      rw [HST.out]
      exact hR
  · have hb1 := hb0.fr hF
    have HST : Hid (start data = { rest := data, buf := [], peek := 0, err := .no, eof := false, nerr := 0 }) := Lib.hid (by rw [start_rest, short_rest hs])
    have hR := Rd.new hb1 ⟨_, _, _, _, _, _, _, h1, hu⟩ HL.out
    unfold rdCs at hR
    clear hb0 hb1 h hF hu hs h1
    unfold errV
    go_wp2_with fail
    go_ret
    refine ⟨_, rfl, ?_⟩
    rw [HST.out]
    exact hR
end GI
end Go.Proofs.YtgplcbobomainaaDoor
