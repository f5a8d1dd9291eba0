/-
  The list of imports; readString, readImport.
-/
import Derived.Test.YtgplcbobomainaaDoorRdT
namespace Go.Proofs.YtgplcbobomainaaDoor.GI
open Go.RowKit
set_option linter.unusedVariables false
set_option linter.unusedSimpArgs false

/-- The list's variable and row. -/
structure LsA (O : Nat → Option Obj) (base l : Nat) (LV : Value) (ls : List ByteArray) (w : World) : Prop where
  lcell : O l = some (.cells #[LV] 23 (0, 0))
  own : w.ownsRow base 9 1 LV ls.length (sv ls)
  okeep : ∀ g, LV.ownBlock = some g → ∃ o, O g = some o
  lne : LV.ownBlock ≠ some l
  ob : ∀ k o, O k = some o → base ≤ k
  ol : ∀ k o, O k = some o → k = l ∨ LV.ownBlock = some k
def RdL (E : EB) (w0 : World) (p l : Nat) (S : RS) (ls : List ByteArray) (w : World) : Prop := ∃ O LV, Rd O E w0 p S w ∧ LsA O w0.heap.size l LV ls w

section
variable {O : Nat → Option Obj} {E : EB} {w0 : World} {p l : Nat} {S S' : RS} {ls : List ByteArray} {LV : Value} {w w' : World}
theorem Rd.obj (h : Rd O E w0 p S w) {k : Nat} {o : Obj} (ho : O k = some o) : w.heap[k]? = some o := by
  obtain ⟨K, q, B, s, d, V, h⟩ := h
  exact (h.keep k o ho).1
theorem LsA.step (h : LsA O w0.heap.size l LV ls w) (h1 : Rd O E w0 p S w) (h2 : Rd O E w0 p S' w') : LsA O w0.heap.size l LV ls w' :=
  ⟨h.lcell, ownsRow_keep h.own (fun g hg => by
    obtain ⟨o, ho⟩ := h.okeep g hg
    rw [h2.obj ho, h1.obj ho]), h.okeep, h.lne, h.ob, h.ol⟩
/-- A method that leaves the list alone. -/
theorem lift {f : FuncId} {args : Array Value} {v : Value} (h : RdL E w0 p l S ls w) (hc : ∀ O, Rd O E w0 p S w → Calls Tryd.prog f args w fun e w' => e = .returned v ∧ Rd O E w0 p S' w') :
    Calls Tryd.prog f args w fun e w' => e = .returned v ∧ RdL E w0 p l S' ls w' := by
  obtain ⟨O, LV, h, hl⟩ := h
  exact (hc O h).mono fun e w' ⟨he, h'⟩ => ⟨he, O, LV, h', hl.step h h'⟩
theorem RdL.sees (h : RdL E w0 p l S ls w) : Sees p S w := by
  obtain ⟨O, LV, h, hl⟩ := h
  exact h.sees
theorem RdL.setPeek (h : RdL E w0 p l S ls w) (c : UInt8) : RdL E w0 p l { S with peek := c } ls (w.setCell ⟨p, 2, none⟩ (.int .u8 (c.toNat : Int))) := by
  obtain ⟨O, LV, h, hl⟩ := h
  exact ⟨O, LV, h.setPeek c, hl.step h (h.setPeek c)⟩
theorem RdL.drewN (h : RdL E w0 p l S ls w) (n : Nat) : RdL E w0 p l S ls (w.drewN n) := by
  obtain ⟨O, LV, h, hl⟩ := h
  exact ⟨O, LV, h.drewN n, hl.step h (h.drewN n)⟩
theorem RdL.drew (h : RdL E w0 p l S ls w) : RdL E w0 p l S ls w.drew := by
  obtain ⟨O, LV, h, hl⟩ := h
  exact ⟨O, LV, h.drew, hl.step h h.drew⟩
/-- What was read, as the variable holds it. -/
theorem Rd.bufAt (h : Rd O E w0 p S w) (hb : S.buf ≠ []) : ∃ g cap, w.cell? ⟨p, 1, none⟩ = some (.slice (some ⟨g, 0, none⟩) S.buf.length cap) ∧ S.buf.length ≤ cap ∧ cap ≤ maxLen ∧ w0.heap.size ≤ g ∧ Bts w (some ⟨g, 0, none⟩) S.buf := by
  obtain ⟨K, q, B, s, d, V, h⟩ := h
  obtain ⟨g, cap, rfl, h1, h2, h3, h4⟩ := own_form h.own (List.length_pos_iff.2 hb)
  refine ⟨g, cap, h.cells.2.1, h1, h2, h3, ?_⟩
  have hr := Reads.of_own h.own
  exact hr
/-- The list's blocks alone were written. -/
theorem Rd.frame {O' : Nat → Option Obj} (h : Rd O E w0 p S w) (hob : ∀ k o, O k = some o → w0.heap.size ≤ k) (hz : w.heap.size ≤ w'.heap.size) (hos : w'.os = w.os) (htp : w'.tape = w.tape) (hout : w'.output = w.output)
    (hk : ∀ k, k < w.heap.size → O k = none → w'.heap[k]? = w.heap[k]?) (hO : ∀ k o, O' k = some o → w'.heap[k]? = some o ∧ (O k ≠ none ∨ w.heap.size ≤ k)) : Rd O' E w0 p S w' := by
  obtain ⟨K, q, B, s, d, V, h⟩ := h
  have hn : ∀ k, (k = p ∨ k = q ∨ k = B ∨ k = s ∨ k = d ∨ V.ownBlock = some k) → O k = none := by
    intro k hk
    cases ho : O k with
    | none => rfl
    | some o =>
      obtain ⟨_, h1, h2, h3, h4, h5, h6⟩ := h.keep k o ho
      rcases hk with e | e | e | e | e | e
      · exact absurd e h1
      · exact absurd e h2
      · exact absurd e h3
      · exact absurd e h4
      · exact absurd e h5
      · exact absurd e h6
  obtain ⟨r, n, bs, lr, pe, lb, lr', hb, hu⟩ := h.buf
  have hsl := hb.src.lt
  have hge : O 2 = none := by
    cases ho : O 2 with
    | none => rfl
    | some o => have := hob _ _ ho; have := geof_lt h.errs; omega
  refine ⟨K, q, B, s, d, V, (hk p (row_lt h.prow) (hn p (by simp))).trans h.prow, ownsRow_keep h.own (fun g hg => hk g (own_lt h.own g hg).2 (hn g (by simp [hg]))), h.vne,
    BufStKeep h.buf hz (hk q (row_lt hb.qrow) (hn q (by simp))) (hk B (row_lt hb.brow) (hn B (by simp))) (hk s hsl.1 (hn s (by simp))) (hk d hsl.2 (hn d (by simp))) (hk _ (World.block_lt_of_cell? w _ hb.eof) hge), h.pq, h.pB, h.ps, h.pd,
    h.below.trans ⟨hos, htp, hout, hz, fun k hk0 => hk k (by have := h.below.size; omega) (by
      cases ho : O k with
      | none => rfl
      | some o => have := hob _ _ ho; omega)⟩, h.bp, h.bq, h.bB, h.bs, h.bd, h.errs, h.tot, fun k o ho => ?_⟩
  obtain ⟨h1, h2⟩ := hO k o ho
  refine ⟨h1, ?_⟩
  rcases h2 with h2 | h2
  · cases ho2 : O k with
    | none => exact absurd ho2 h2
    | some o2 => exact (h.keep k o2 ho2).2
  · have := row_lt h.prow; have := row_lt hb.qrow; have := row_lt hb.brow
    refine ⟨by omega, by omega, by omega, by omega, by omega, fun e => by have := (own_lt h.own k e).2; omega⟩
/-- A text is put behind the list. -/
theorem RdL.grow {g cap : Nat} {x : ByteArray} {w1 : World} (h : Rd O E w0 p S w) (hl : LsA O w0.heap.size l LV ls w) (b1 : Below w.heap.size w w1) (hown : w'.ownsRow w0.heap.size 9 1 (.slice (some ⟨g, 0, none⟩) (ls.length + 1) cap) (ls.length + 1) (sv ls ++ [.string x])) (hgrow : w1.grownBy w' LV.ownBlock) (hat : LV.ownBlock = some g ∨ g = w1.heap.size) :
    RdL E w0 p l S (ls ++ [x]) (w'.setCell ⟨l, 0, none⟩ (.slice (some ⟨g, 0, none⟩) (ls.length + 1) cap)) := by
  have hll := row_lt (h.obj hl.lcell)
  have hgl : g ≠ l := by
    rcases hat with e | e
    · exact fun h => hl.lne (e.trans (by rw [h]))
    · have := b1.size; omega
  have hb1 : ∀ k, k < w.heap.size → w1.heap[k]? = w.heap[k]? := fun k hk => b1.block k hk
  have hz1 := b1.size
  have hl' : w'.heap[l]? = some (.cells #[LV] 23 (0, 0)) := (hgrow.block l (by omega) (fun e => hl.lne e.symm)).trans ((hb1 l hll).trans (h.obj hl.lcell))
  have hlset := heap_setCell_same w' l 0 _ _ (.slice (some ⟨g, 0, none⟩) (ls.length + 1) cap) hl'
  have hk : ∀ k, k < w.heap.size → O k = none → (w'.setCell ⟨l, 0, none⟩ (.slice (some ⟨g, 0, none⟩) (ls.length + 1) cap)).heap[k]? = w.heap[k]? := by
    intro k hk0 hn
    rw [Below.heap_setCell _ _ _ _ (fun e => by rw [e] at hn; simp only at hn; rw [hl.lcell] at hn; cases hn)]
    rw [hgrow.block k (by omega) (fun e => by obtain ⟨o, ho⟩ := hl.okeep k e.symm; rw [ho] at hn; cases hn)]
    exact hb1 k hk0
  have hgz : g < w'.heap.size := (own_lt hown g rfl).2
  have hgo : O g ≠ none ∨ w.heap.size ≤ g := by
    rcases hat with e | e
    · obtain ⟨o, ho⟩ := hl.okeep g e
      exact .inl (by rw [ho]; simp)
    · exact .inr (by omega)
  have hset : (w'.setCell ⟨l, 0, none⟩ (.slice (some ⟨g, 0, none⟩) (ls.length + 1) cap)).heap[g]? = w'.heap[g]? := Below.heap_setCell _ _ _ _ hgl
  obtain ⟨og, hog⟩ : ∃ og, w'.heap[g]? = some og := ⟨_, Array.getElem?_eq_getElem hgz⟩
  let O' : Nat → Option Obj := fun k => if k = l then some (.cells #[.slice (some ⟨g, 0, none⟩) (ls.length + 1) cap] 23 (0, 0)) else if k = g then some og else none
  have hR : Rd O' E w0 p S (w'.setCell ⟨l, 0, none⟩ (.slice (some ⟨g, 0, none⟩) (ls.length + 1) cap)) := by
    refine h.frame hl.ob (Nat.le_trans hz1 (Nat.le_trans hgrow.size (by simp [World.setCell]))) (hgrow.os.trans b1.os) (hgrow.tape.trans b1.tape) (hgrow.output.trans b1.output) hk (fun k o ho => ?_)
    simp only [O'] at ho
    split at ho
    · rename_i e
      subst e
      injection ho with ho
      subst ho
      exact ⟨hlset, .inl (by rw [hl.lcell]; simp)⟩
    · split at ho
      · rename_i e
        subst e
        injection ho with ho
        subst ho
        exact ⟨hset.trans hog, hgo⟩
      · cases ho
  have hbg := (own_lt hown g rfl).1
  refine ⟨O', .slice (some ⟨g, 0, none⟩) (ls.length + 1) cap, hR, ⟨by simp [O'], ?_, fun g' hg' => ?_, fun e => ?_, fun k o ho => ?_, fun k o ho => ?_⟩⟩
  · have e1 : (ls ++ [x]).length = ls.length + 1 := by simp
    have e2 : sv (ls ++ [x]) = sv ls ++ [.string x] := by unfold sv; simp
    rw [e1, e2]
    exact ownsRow_keep hown (fun g' hg' => by
      have : g = g' := by simpa [Value.ownBlock] using hg'
      subst this
      exact hset)
  · have : g = g' := by simpa [Value.ownBlock] using hg'
    subst this
    exact ⟨og, by simp [O', hgl]⟩
  · have : g = l := by simpa [Value.ownBlock] using e
    exact hgl this
  · simp only [O'] at ho
    split at ho
    · rename_i e; rw [e]; exact hl.ob l _ hl.lcell
    · split at ho
      · rename_i e; rw [e]; exact hbg
      · cases ho
  · simp only [O'] at ho
    split at ho
    · rename_i e; exact .inl e
    · split at ho
      · rename_i e; exact .inr (by rw [e]; rfl)
      · cases ho
end

/-- What the saving of a literal reads stays, wherever the list's row is not. -/
theorem save_facts {O : Nat → Option Obj} {E : EB} {w0 : World} {p l g cap st : Nat} {S : RS} {ls : List ByteArray} {LV : Value} {w : World} (h : Rd O E w0 p S w) (hl : LsA O w0.heap.size l LV ls w)
    (c1 : w.cell? ⟨p, 1, none⟩ = some (.slice (some ⟨g, 0, none⟩) S.buf.length cap)) (hbt : Bts w (some ⟨g, 0, none⟩) S.buf) (hst : st < S.buf.length) (hlc : S.buf.length ≤ cap) :
    ∀ w' : World, w.heap.size ≤ w'.heap.size → (∀ k, k < w.heap.size → LV.ownBlock ≠ some k → w'.heap[k]? = w.heap[k]?) → w'.cell? ⟨l, 0, none⟩ = some LV ∧ w'.cell? ⟨p, 1, none⟩ = some (.slice (some ⟨g, 0, none⟩) S.buf.length cap) ∧
      (convert 22 9 (.slice (some ⟨g, st, none⟩) (S.buf.length - st) (cap - st))).run Tryd.prog w' = .ok (.string ⟨(S.buf.drop st).toArray⟩) w' := by
  obtain ⟨K, q, B, s, d, V, hA⟩ := h
  have hV : V = .slice (some ⟨g, 0, none⟩) S.buf.length cap := by
    have := hA.cells.2.1
    rw [c1] at this
    exact (Option.some.inj this).symm
  have hp : LV.ownBlock ≠ some p := fun e => by
    obtain ⟨o, ho⟩ := hl.okeep p e
    exact (hA.keep p o ho).2.1 rfl
  have hgL : LV.ownBlock ≠ some g := fun e => by
    obtain ⟨o, ho⟩ := hl.okeep g e
    exact (hA.keep g o ho).2.2.2.2.2.2 (by rw [hV]; rfl)
  have hgz : g < w.heap.size := (own_lt hA.own g (by rw [hV]; rfl)).2
  intro w' hz hk
  refine ⟨?_, ?_, ?_⟩
  · rw [World.cell?_of_block (w := w) (hk l (row_lt (hA.keep l _ hl.lcell).1) hl.lne)]
    exact cells_row (hA.keep l _ hl.lcell).1 0
  · rw [World.cell?_of_block (w := w) (hk p (row_lt hA.prow) hp)]
    exact c1
  · have hD : BtsD w g (some ⟨g, 0, none⟩) S.buf := ⟨hgz, hbt, fun a e => by injection e with e; rw [← e]⟩
    have h1 := (hD.keep hz (hk g hgz hgL)).cut (Nat.le_of_lt hst) hlc
    rw [if_neg (by omega)] at h1
    have h2 := h1.bts.conv (P := Tryd.prog) (src := 22) (dst := 9) Tryd.underlying22 Tryd.underlying5 Tryd.underlying9 (cap - st)
    simp only [Option.map_some, Go.WideShapes.add_plain, Nat.zero_add, List.length_drop] at h2
    exact h2
theorem RdL.buf1 {E : EB} {w0 : World} {p l : Nat} {S : RS} {ls : List ByteArray} {w : World} (h : RdL E w0 p l S ls w) (hb : S.buf ≠ []) : ∃ c : Option Addr × Nat, w.cell? ⟨p, 1, none⟩ = some (.slice c.1 S.buf.length c.2) := by
  obtain ⟨O, LV, h, hl⟩ := h
  obtain ⟨g, cap, c1, _⟩ := h.bufAt hb
  exact ⟨(some ⟨g, 0, none⟩, cap), c1⟩
theorem Rd.size {O : Nat → Option Obj} {E : EB} {w0 : World} {p : Nat} {S : RS} {w : World} (h : Rd O E w0 p S w) : w0.heap.size ≤ w.heap.size := by
  obtain ⟨K, q, B, s, d, V, h⟩ := h
  exact h.below.size
theorem RdL.tot {E : EB} {w0 : World} {p l : Nat} {S : RS} {ls : List ByteArray} {w : World} (h : RdL E w0 p l S ls w) : S.buf.length ≤ 4294967296 := by
  obtain ⟨O, LV, ⟨K, q, B, s, d, V, h⟩, hl⟩ := h
  have := h.tot
  omega

end Go.Proofs.YtgplcbobomainaaDoor.GI
