/-
  The reader of package gobuildread: its memory; readByte, syntaxError.
-/
import Derived.Test.YtgplcbobomainaaDoorRdJ
import Derived.Test.YtgplcbobomainaaDoorByt
namespace Go.Proofs.YtgplcbobomainaaDoor.GB
open Go.RowKit
set_option linter.unusedVariables false
set_option linter.unusedSimpArgs false

/-- The fields of a reader. -/
def rdCs (q : Nat) (V : Value) (pk : UInt8) (er : Value) (eof : Bool) (nerr : Nat) : Array Value :=
  #[.pointer (some ⟨q, 0, none⟩), V, .int .u8 (pk.toNat : Int), er, .bool eof, .int .i64 (nerr : Nat), .string ByteArray.empty, .int .i64 0, .int .i64 1, .int .i64 1]
/-- A reader and all that belongs to it; O: what else there is. -/
structure RdA (O : Nat → Option Obj) (E : EB) (w0 : World) (K : SK) (p q B s d : Nat) (V : Value) (S : RS) (w : World) : Prop where
  prow : w.heap[p]? = some (.cells (rdCs q V S.peek (errOf E S.err) S.eof S.nerr) 88 (0, 0))
  own : w.ownsRow w0.heap.size 5 1 V S.buf.length (bv S.buf)
  vne : ∀ g, V.ownBlock = some g → g ≠ p ∧ g ≠ q ∧ g ≠ B ∧ g ≠ s ∧ g ≠ d
  buf : BufSt K E.eof q B s d S.rest w
  pq : p ≠ q
  pB : p ≠ B
  ps : p ≠ s
  pd : p ≠ d
  below : Below w0.heap.size w0 w
  bp : w0.heap.size ≤ p
  bq : w0.heap.size ≤ q
  bB : w0.heap.size ≤ B
  bs : w0.heap.size ≤ s
  bd : w0.heap.size ≤ d
  errs : E.Ok 7 8 w0
  tot : S.buf.length + S.rest.length ≤ 4294967296
  keep : ∀ k o, O k = some o → w.heap[k]? = some o ∧ k ≠ p ∧ k ≠ q ∧ k ≠ B ∧ k ≠ s ∧ k ≠ d ∧ V.ownBlock ≠ some k
def Rd (O : Nat → Option Obj) (E : EB) (w0 : World) (p : Nat) (S : RS) (w : World) : Prop := ∃ K q B s d V, RdA O E w0 K p q B s d V S w

section
variable {O : Nat → Option Obj} {E : EB} {w0 : World} {K : SK} {p q B s d : Nat} {V : Value} {S : RS} {w : World}
theorem RdA.cells (h : RdA O E w0 K p q B s d V S w) : w.cell? ⟨p, 0, none⟩ = some (.pointer (some ⟨q, 0, none⟩)) ∧ w.cell? ⟨p, 1, none⟩ = some V ∧ w.cell? ⟨p, 2, none⟩ = some (.int .u8 (S.peek.toNat : Int)) ∧
    w.cell? ⟨p, 3, none⟩ = some (errOf E S.err) ∧ w.cell? ⟨p, 4, none⟩ = some (.bool S.eof) ∧ w.cell? ⟨p, 5, none⟩ = some (.int .i64 (S.nerr : Nat)) :=
  ⟨cells_row h.prow 0, cells_row h.prow 1, cells_row h.prow 2, cells_row h.prow 3, cells_row h.prow 4, cells_row h.prow 5⟩
theorem RdA.thaw (h : RdA O E w0 K p q B s d V S w) : w.frozen? ⟨p, 1, none⟩ = false ∧ w.frozen? ⟨p, 2, none⟩ = false ∧ w.frozen? ⟨p, 3, none⟩ = false ∧ w.frozen? ⟨p, 4, none⟩ = false ∧ w.frozen? ⟨p, 5, none⟩ = false :=
  ⟨row_thaw h.prow 1, row_thaw h.prow 2, row_thaw h.prow 3, row_thaw h.prow 4, row_thaw h.prow 5⟩
theorem RdA.errsAt (h : RdA O E w0 K p q B s d V S w) : E.Ok 7 8 w := h.errs.below h.below
theorem BufStKeep {eb : Addr} {rest : List UInt8} {w w' : World} (h : BufSt K eb q B s d rest w) (hz : w.heap.size ≤ w'.heap.size) (hq : w'.heap[q]? = w.heap[q]?) (hB : w'.heap[B]? = w.heap[B]?) (hs : w'.heap[s]? = w.heap[s]?) (hd : w'.heap[d]? = w.heap[d]?) (hg : w'.heap[2]? = w.heap[2]?) : BufSt K eb q B s d rest w' := by
  obtain ⟨r, n, bs, l, pe, lb, lr, h, hu⟩ := h
  exact ⟨r, n, bs, l, pe, lb, lr, ⟨hq.trans h.qrow, hB.trans h.brow, h.blen, h.rn, h.n4, h.src.keep hz hs hd, h.pend, (World.cell?_of_block (a := ⟨2, 0, none⟩) hg).trans h.eof, h.qB, h.qs, h.qd, h.sB, h.dB, h.ds, h.gq, h.gB, h.gs⟩, hu⟩
theorem geof_lt {gn gs : Nat} (h : E.Ok gn gs w0) : 2 < w0.heap.size := World.block_lt_of_cell? w0 _ h.ceof
/-- A field of the reader's own is written. -/
theorem RdA.put {S' : RS} (h : RdA O E w0 K p q B s d V S w) (i : Nat) (v : Value) (hv : (rdCs q V S.peek (errOf E S.err) S.eof S.nerr).setIfInBounds i v = rdCs q V S'.peek (errOf E S'.err) S'.eof S'.nerr)
    (hb : S'.buf = S.buf) (hr : S'.rest = S.rest) : RdA O E w0 K p q B s d V S' (w.setCell ⟨p, i, none⟩ v) := by
  have hz : w.heap.size ≤ (w.setCell ⟨p, i, none⟩ v).heap.size := by simp [World.setCell]
  have hk : ∀ k, k ≠ p → (w.setCell ⟨p, i, none⟩ v).heap[k]? = w.heap[k]? := fun k hk => Below.heap_setCell _ _ _ _ hk
  have hge : 2 ≠ p := by have := geof_lt h.errs; have := h.bp; omega
  refine ⟨by rw [heap_setCell_same w p i _ _ v h.prow, hv], by rw [hb]; exact ownsRow_keep h.own (fun g hg => hk g (h.vne g hg).1), h.vne,
    by rw [hr]; exact BufStKeep h.buf hz (hk q (Ne.symm h.pq)) (hk B (Ne.symm h.pB)) (hk s (Ne.symm h.ps)) (hk d (Ne.symm h.pd)) (hk _ hge), h.pq, h.pB, h.ps, h.pd, h.below.setCell (p := ⟨p, i, none⟩) h.bp v, h.bp, h.bq, h.bB, h.bs, h.bd, h.errs, by rw [hb, hr]; exact h.tot,
    fun k o ho => ?_⟩
  obtain ⟨h1, h2, h3⟩ := h.keep k o ho
  exact ⟨(hk k h2).trans h1, h2, h3⟩
theorem RdA.drewN (h : RdA O E w0 K p q B s d V S w) (n : Nat) : RdA O E w0 K p q B s d V S (w.drewN n) :=
  ⟨h.prow, ownsRow_keep h.own (fun g hg => rfl), h.vne, BufStKeep h.buf (Fr.of_drawn (own := []) ⟨n, rfl⟩).size rfl rfl rfl rfl rfl, h.pq, h.pB, h.ps, h.pd, below_drewN h.below n, h.bp, h.bq, h.bB, h.bs, h.bd, h.errs, h.tot, h.keep⟩
/-- The bufio.Reader was at work. -/
theorem RdA.moved {rest : List UInt8} {w' : World} (h : RdA O E w0 K p q B s d V S w) (hf : Fr [q, B, s] w w') (hb : BufSt K E.eof q B s d rest w') (ht : S.buf.length + rest.length ≤ 4294967296) : RdA O E w0 K p q B s d V { S with rest := rest } w' := by
  have hk : ∀ k, k < w.heap.size → k ≠ q → k ≠ B → k ≠ s → w'.heap[k]? = w.heap[k]? := fun k h0 h1 h2 h3 => hf.block k h0 (by simp [h1, h2, h3])
  refine ⟨(hk p (row_lt h.prow) h.pq h.pB h.ps).trans h.prow, ownsRow_keep h.own (fun g hg => hk g (own_lt h.own g hg).2 (h.vne g hg).2.1 (h.vne g hg).2.2.1 (h.vne g hg).2.2.2.1), h.vne, hb, h.pq, h.pB, h.ps, h.pd,
    h.below.trans (hf.below h.below.size (fun k hk => by simp at hk; have := h.bq; have := h.bB; have := h.bs; omega)), h.bp, h.bq, h.bB, h.bs, h.bd, h.errs, ht, fun k o ho => ?_⟩
  obtain ⟨h1, h2, h3, h4, h5, h6⟩ := h.keep k o ho
  exact ⟨(hk k (row_lt h1) h3 h4 h5).trans h1, h2, h3, h4, h5, h6⟩
/-- A new block. -/
theorem RdA.alloc (h : RdA O E w0 K p q B s d V S w) (o : Obj) : RdA O E w0 K p q B s d V S (w.alloc o) := by
  have hk : ∀ k, k < w.heap.size → (w.alloc o).heap[k]? = w.heap[k]? := fun k hk => Below.heap_alloc w o k hk
  have hz : w.heap.size ≤ (w.alloc o).heap.size := by simp
  obtain ⟨r, n, bs, l, pe, lb, lr, hb, hu⟩ := h.buf
  have hsl := hb.src.lt
  refine ⟨(hk p (row_lt h.prow)).trans h.prow, ownsRow_keep h.own (fun g hg => hk g (own_lt h.own g hg).2), h.vne, BufStKeep h.buf hz (hk q (row_lt hb.qrow)) (hk B (row_lt hb.brow)) (hk s hsl.1) (hk d hsl.2) (hk _ (World.block_lt_of_cell? w _ hb.eof)), h.pq, h.pB, h.ps, h.pd,
    h.below.alloc h.below.size o, h.bp, h.bq, h.bB, h.bs, h.bd, h.errs, h.tot, fun k o' ho => ?_⟩
  obtain ⟨h1, h2⟩ := h.keep k o' ho
  exact ⟨(hk k (row_lt h1)).trans h1, h2⟩
end

theorem syntaxError_any {O : Nat → Option Obj} {E : EB} {w0 : World} {p : Nat} {S : RS} {w : World} (h : Rd O E w0 p S w) :
    Calls Tryd.prog 65 #[.pointer (some ⟨p, 0, none⟩)] w fun e w' => e = .returned (.tuple #[]) ∧ Rd O E w0 p (syn S) w' := by
  obtain ⟨K, q, B, s, d, V, h⟩ := h
  obtain ⟨c0, c1, c2, c3, c4, c5⟩ := h.cells
  obtain ⟨f1, f2, f3, f4, f5⟩ := h.thaw
  have hs := h.errsAt.csyn
  by_cases he : S.err = .no
  · have HS : Hid (syn S = { S with err := .syn }) := Lib.hid (by unfold syn; rw [if_pos he])
    have e3 : w.cell? ⟨p, 3, none⟩ = some .nilIface := by rw [c3, he]; rfl
    clear c3 he
    unfold errV at hs
    go_enter Tryd.func65, Tryd.ntmps65
    go_wp2_with fail
    go_end0
    rw [HS.out]
    exact ⟨rfl, K, q, B, s, d, V, h.put 3 _ rfl rfl rfl⟩
  · have HS : Hid (syn S = S) := Lib.hid (by unfold syn; rw [if_neg he])
    obtain ⟨b, hb⟩ : ∃ b, errOf E S.err = errV b := by
      cases h : S.err with
      | no => exact absurd h he
      | syn => exact ⟨_, rfl⟩
      | nul => exact ⟨_, rfl⟩
    have e3 : w.cell? ⟨p, 3, none⟩ = some (errV b) := by rw [c3, hb]
    unfold errV at e3
    clear c3 he hb
    go_enter Tryd.func65, Tryd.ntmps65
    go_wp2_with fail
    go_end0
    rw [HS.out]
    exact ⟨rfl, K, q, B, s, d, V, h⟩


/-- A byte is appended to what was read. -/
theorem RdA.grow {O : Nat → Option Obj} {E : EB} {w0 : World} {K : SK} {p q B s d g cap : Nat} {V : Value} {S : RS} {w w' : World} {c : UInt8} (h : RdA O E w0 K p q B s d V S w)
    (hown : w'.ownsRow w0.heap.size 5 1 (.slice (some ⟨g, 0, none⟩) (S.buf.length + 1) cap) (S.buf.length + 1) (bv S.buf ++ [.int .u8 (c.toNat : Int)])) (hgrow : w.grownBy w' V.ownBlock) (hat : V.ownBlock = some g ∨ g = w.heap.size) (ht : S.buf.length + 1 + S.rest.length ≤ 4294967296) :
    RdA O E w0 K p q B s d (.slice (some ⟨g, 0, none⟩) (S.buf.length + 1) cap) { S with buf := S.buf ++ [c] } (w'.setCell ⟨p, 1, none⟩ (.slice (some ⟨g, 0, none⟩) (S.buf.length + 1) cap)) := by
  obtain ⟨r, n, bs, l, pe, lb, lr, hb, hu⟩ := h.buf
  have hsl := hb.src.lt
  have hlp := row_lt h.prow
  have hne : ∀ k, k < w.heap.size → V.ownBlock ≠ some k → g ≠ k := by
    intro k hk hn
    rcases hat with e | e
    · rw [e] at hn; intro h; exact hn (by rw [h])
    · omega
  have hgk : ∀ k, k < w.heap.size → V.ownBlock ≠ some k → w'.heap[k]? = w.heap[k]? := fun k hk hn => hgrow.block k hk (fun e => hn e.symm)
  have hvp : V.ownBlock ≠ some p := fun e => (h.vne p e).1 rfl
  have hvq : V.ownBlock ≠ some q := fun e => (h.vne q e).2.1 rfl
  have hvB : V.ownBlock ≠ some B := fun e => (h.vne B e).2.2.1 rfl
  have hvs : V.ownBlock ≠ some s := fun e => (h.vne s e).2.2.2.1 rfl
  have hvd : V.ownBlock ≠ some d := fun e => (h.vne d e).2.2.2.2 rfl
  have hgp := hne p hlp hvp
  have hp' := (hgk p hlp hvp).trans h.prow
  have hk : ∀ k, k < w.heap.size → k ≠ p → V.ownBlock ≠ some k → (w'.setCell ⟨p, 1, none⟩ (.slice (some ⟨g, 0, none⟩) (S.buf.length + 1) cap)).heap[k]? = w.heap[k]? := fun k h0 h1 h2 => (Below.heap_setCell _ _ _ _ h1).trans (hgk k h0 h2)
  have hge := geof_lt h.errs
  have hgn : V.ownBlock ≠ some 2 := fun e => by have := (own_lt h.own _ e).1; omega
  have hbel : Below w0.heap.size w0 w' := h.below.grown hgrow h.below.size (fun k e => (own_lt h.own k e).1)
  refine ⟨heap_setCell_same w' p 1 _ _ _ hp', ?_, ?_, BufStKeep h.buf (Nat.le_trans hgrow.size (by simp [World.setCell])) (hk q (row_lt hb.qrow) (Ne.symm h.pq) hvq) (hk B (row_lt hb.brow) (Ne.symm h.pB) hvB) (hk s hsl.1 (Ne.symm h.ps) hvs) (hk d hsl.2 (Ne.symm h.pd) hvd) (hk _ (World.block_lt_of_cell? w _ hb.eof) (by have := h.bp; omega) hgn),
    h.pq, h.pB, h.ps, h.pd, hbel.setCell (p := ⟨p, 1, none⟩) h.bp _, h.bp, h.bq, h.bB, h.bs, h.bd, h.errs, ?_, fun k o ho => ?_⟩
  · have e1 : (S.buf ++ [c]).length = S.buf.length + 1 := by simp
    have e2 : bv (S.buf ++ [c]) = bv S.buf ++ [.int .u8 (c.toNat : Int)] := by unfold bv; simp
    show World.ownsRow _ _ _ _ _ (S.buf ++ [c]).length (bv (S.buf ++ [c]))
    rw [e1, e2]
    exact ownsRow_keep hown (fun g' hg' => by
      have : g = g' := by simpa [Value.ownBlock] using hg'
      subst this
      exact Below.heap_setCell _ _ _ _ hgp)
  · intro g' hg'
    have : g = g' := by simpa [Value.ownBlock] using hg'
    subst this
    exact ⟨hgp, hne q (row_lt hb.qrow) hvq, hne B (row_lt hb.brow) hvB, hne s hsl.1 hvs, hne d hsl.2 hvd⟩
  · show (S.buf ++ [c]).length + S.rest.length ≤ 4294967296
    simp; omega
  · obtain ⟨h1, h2, h3, h4, h5, h6, h7⟩ := h.keep k o ho
    refine ⟨(hk k (row_lt h1) h2 h7).trans h1, h2, h3, h4, h5, h6, fun e => ?_⟩
    have : g = k := by simpa [Value.ownBlock] using e
    exact hne k (row_lt h1) h7 this


set_option maxRecDepth 100000 in
set_option maxHeartbeats 1000000 in
theorem readByte_any {O : Nat → Option Obj} {E : EB} {w0 : World} {p : Nat} {S : RS} {w : World} (h : Rd O E w0 p S w) :
    Calls Tryd.prog 64 #[.pointer (some ⟨p, 0, none⟩)] w fun e w' => e = .returned (.int .u8 ((rb S).2.toNat : Int)) ∧ Rd O E w0 p (rb S).1 w' := by
  obtain ⟨K, q, B, s, d, V, h⟩ := h
  obtain ⟨c0, c1, c2, c3, c4, c5⟩ := h.cells
  obtain ⟨f1, f2, f3, f4, f5⟩ := h.thaw
  go_enter Tryd.func64, Tryd.ntmps64
  go_wp2_with fail
  refine (readByteB_any h.buf).mono ?_; rintro e w1 ⟨rfl, hb, hF⟩
  have h1 := h.moved hF hb (by have := h.tot; simp; omega)
  obtain hrest | ⟨c, t, hrest⟩ : S.rest = [] ∨ ∃ c t, S.rest = c :: t := by
    cases S.rest with
    | nil => exact .inl rfl
    | cons c t => exact .inr ⟨c, t, rfl⟩
  · have hv : rbVal E.eof S.rest = .tuple #[.int .u8 0, errV E.eof] := by rw [hrest]; rfl
    rw [hv]
    have HRB : Hid (rb S = ({ S with rest := S.rest.tail, eof := true }, 0)) := Lib.hid (by rw [rb_nil hrest, hrest]; rfl)
    have hE := h1.errsAt
    have heq := err_same E.eof w1
    have hce := hE.ceof
    clear hv c0 c1 c2 c3 c4 c5 f1 f2 f3 f4 f5 h hF hb hrest hE
    obtain ⟨c0, c1, c2, c3, c4, c5⟩ := h1.cells
    obtain ⟨f1, f2, f3, f4, f5⟩ := h1.thaw
    unfold errV at heq hce
    unfold errV
    go_wp2_with fail
    go_ret
    rw [HRB.out]
    exact ⟨rfl, K, q, B, s, d, V, h1.put 4 (.bool true) rfl rfl rfl⟩
  · have hv : rbVal E.eof S.rest = .tuple #[.int .u8 (c.toNat : Int), .nilIface] := by rw [hrest]; rfl
    rw [hv]
    have hE := h1.errsAt
    obtain ⟨i0, hi0, hz0, hz1, hz2⟩ := info_parts u8_info
    have htot := h.tot
    rw [hrest] at htot
    simp only [List.length_cons] at htot
    have HTOT := Lib.hid htot
    clear htot
    have HT : Hid (S.rest.tail = t) := Lib.hid (by rw [hrest]; rfl)
    have HREST := Lib.hid hrest
    clear hv c0 c1 c2 c3 c4 c5 f1 f2 f3 f4 f5 h hF hb hrest
    obtain ⟨c0, c1, c2, c3, c4, c5⟩ := h1.cells
    obtain ⟨f1, f2, f3, f4, f5⟩ := h1.thaw
    have ha := h1.alloc (.cells #[.int .u8 (c.toNat : Int)] 5)
    have hz8 : w0.heap.size ≤ (w1.alloc (.cells #[.int .u8 (c.toNat : Int)] 5)).heap.size := ha.below.size
    have hnb : (w1.alloc (.cells #[.int .u8 (c.toNat : Int)] 5)).heap[w1.heap.size]? = some (.cells #[.int .u8 (c.toNat : Int)] 5 (0, 0)) := heap_alloc_new w1 _
    have HNB := Lib.hid hnb
    have hH : (w1.alloc (.cells #[.int .u8 (c.toNat : Int)] 5)).heap.size = w1.heap.size + 1 := by simp
    have HH := Lib.hid hH
    clear hnb hH
    go_upto_region 4 with (at_builtin; refine wpList_append_lies _ rfl (.tmp 19) (.tmp 21) 22 rfl w0.heap.size 5 i0 (.int .u8 0) 1 1 Tryd.underlying22 hi0 hz0 hz1 hz2 rfl (by decide) V S.buf.length (bv S.buf) rfl ha.own ⟨w1.heap.size, 0, none⟩ 1 1 [.int .u8 (c.toNat : Int)] rfl rfl (World.news_of_block HNB.out) (fun u hu => by rw [List.mem_singleton] at hu; subst hu; rfl) (by decide) (by have := HTOT.out; unfold maxLen; omega) (by have := HTOT.out; omega) hz8 _ rfl ?_; intro g cap w3 hown hgrow hat hlt; have hp3 := (hgrow.block p (row_lt ha.prow) (fun e => (ha.vne p e.symm).1 rfl)).trans ha.prow; have g1 : w3.cell? ⟨p, 1, none⟩ = some V := cells_row hp3 1; have g2 : w3.frozen? ⟨p, 1, none⟩ = false := row_thaw hp3 1; clear hp3)
    have hG := ha.grow (c := c) hown hgrow hat (by have := HTOT.out; have := HT.out; simp only [this]; omega)
    clear hown hgrow hat hlt g1 g2 c0 c1 c2 c3 c4 c5 f1 f2 f3 f4 f5 ha hz8 HNB HH h1 hE hi0 hz0 hz1 hz2
    generalize w3.setCell ⟨p, 1, none⟩ _ = w4 at *
    generalize Value.slice (some ⟨g, 0, none⟩) (S.buf.length + 1) cap = V4 at *
    obtain ⟨c0, c1, c2, c3, c4, c5⟩ := hG.cells
    obtain ⟨f1, f2, f3, f4, f5⟩ := hG.thaw
    by_cases hc : c = 0
    · subst hc
      have HRB : Hid (rb S = ({ S with rest := t, buf := S.buf ++ [0], err := if S.err = .no then .nul else S.err }, 0)) := Lib.hid (rb_zero HREST.out)
      have hE := hG.errsAt
      have hne := err_other (Ne.symm hE.en) hE.bnul hE.beof
      have hce := hE.ceof
      have hcn := hE.cnul
      unfold errV at hne hce hcn
      clear hE
      by_cases he : S.err = .no
      · have e3 : w4.cell? ⟨p, 3, none⟩ = some .nilIface := by rw [c3]; show some (errOf E S.err) = _; rw [he]; rfl
        have HRB2 := Lib.hid (HRB.out.trans (by rw [if_pos he]))
        clear c3 he HRB
        go_wp2_with fail
        go_ret
        rw [HRB2.out, ← HT.out]
        exact ⟨rfl, K, q, B, s, d, V4, hG.put 3 _ rfl rfl rfl⟩
      · obtain ⟨b, hb⟩ : ∃ b, errOf E S.err = errV b := by
          cases h : S.err with
          | no => exact absurd h he
          | syn => exact ⟨_, rfl⟩
          | nul => exact ⟨_, rfl⟩
        have e3 : w4.cell? ⟨p, 3, none⟩ = some (errV b) := by rw [c3]; show some (errOf E S.err) = _; rw [hb]
        unfold errV at e3
        have HRB2 := Lib.hid (HRB.out.trans (by rw [if_neg he]))
        clear c3 he HRB hb
        go_wp2_with fail
        go_ret
        rw [HRB2.out, ← HT.out]
        exact ⟨rfl, K, q, B, s, d, V4, hG⟩
    · have HRB : Hid (rb S = ({ S with rest := t, buf := S.buf ++ [c] }, c)) := Lib.hid (rb_cons HREST.out hc)
      have hcz : ((c.toNat : Int) == 0) = false := byte_ne (c := 0) hc
      clear hc
      go_wp2_with fail
      go_ret
      rw [HRB.out, ← HT.out]
      exact ⟨rfl, K, q, B, s, d, V4, hG⟩
end Go.Proofs.YtgplcbobomainaaDoor.GB
