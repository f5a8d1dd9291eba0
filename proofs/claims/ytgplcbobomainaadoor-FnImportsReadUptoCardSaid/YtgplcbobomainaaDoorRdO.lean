/-
  ReadComments of both packages; the maker of a reader of package gobuildread.
-/
import Derived.Test.YtgplcbobomainaaDoorReA
import Derived.Test.YtgplcbobomainaaDoorRdQ
namespace Go.Proofs.YtgplcbobomainaaDoor
open Go.RowKit
set_option linter.unusedVariables false
set_option linter.unusedSimpArgs false

/-- What ReadComments leaves. -/
def CmOut (w0 : World) (R : Option (List UInt8)) (e : Ending) (w : World) : Prop :=
  ∃ v er, e = .returned (.tuple #[v, er]) ∧ Below w0.heap.size w0 w ∧ ((∃ b A cap, R = some b ∧ er = .nilIface ∧ v = .slice A b.length cap ∧ Bts w A b) ∨ (∃ x, R = none ∧ er = .iface 98 (.pointer (some x))))
theorem Bts.onBlock {w w' : World} {g : Nat} {l : List UInt8} (h : Bts w (some ⟨g, 0, none⟩) l) (hz : w.heap.size ≤ w'.heap.size) (hk : w'.heap[g]? = w.heap[g]?) : Bts w' (some ⟨g, 0, none⟩) l := by
  refine ⟨h.1, fun hp => ?_⟩
  obtain ⟨ad, e, hb, hc⟩ := h.2 hp
  injection e with e
  subst e
  refine ⟨_, rfl, Nat.lt_of_lt_of_le hb hz, fun j u hu => ?_⟩
  rw [World.cell?_of_block (w := w) (w' := w') (by rw [block_of_add]; exact hk)]
  exact hc j u hu
theorem start_good (data : List UInt8) : Good (start data) := fun e => absurd rfl e
namespace GI

theorem Rd.facts {O : Nat → Option Obj} {E : EB} {w0 : World} {p : Nat} {S : RS} {w : World} (h : Rd O E w0 p S w) :
    Below w0.heap.size w0 w ∧ w0.heap.size ≤ p ∧ w.frozen? ⟨p, 1, none⟩ = false ∧ S.buf.length ≤ 4294967296 ∧ w.heap.size ≤ w.heap.size ∧ (∀ g cap, w.cell? ⟨p, 1, none⟩ = some (.slice (some ⟨g, 0, none⟩) S.buf.length cap) → g ≠ p) := by
  obtain ⟨K, q, B, s, d, V, h⟩ := h
  refine ⟨h.below, h.bp, h.thaw.1, by have := h.tot; omega, Nat.le_refl _, fun g cap hc => ?_⟩
  have hV := h.cells.2.1
  rw [hc] at hV
  injection hV with hV
  exact (h.vne g (by rw [← hV]; rfl)).1

set_option maxRecDepth 100000 in
set_option maxHeartbeats 2000000 in
theorem readComments_any {E : EB} {w0 : World} {K : SK} {s d : Nat} {data : List UInt8} {w : World} (hs : SrcAt K w s d data) (hsd : d ≠ s) (hbs : w0.heap.size ≤ s) (hbd : w0.heap.size ≤ d) (hb : Below w0.heap.size w0 w)
    (he : E.Ok 1 0 w0) (hlen : data.length ≤ 4294967296) :
    Calls Tryd.prog 35 #[.iface (srcT K) (.pointer (some ⟨s, 0, none⟩))] w (CmOut w0 (readCm data)) := by
  have HL := Lib.hid hlen
  clear hlen
  go_enter Tryd.func35, Tryd.ntmps35
  go_wp2_with fail
  have hE := he.below hb
  have hio : 2 ≠ s := by have := geof_lt he; omega
  refine (newReader_any K E.eof s d data w hs hsd hE.ceof hio).mono ?_; rintro e w1 ⟨q, B, bs, rfl, h1, hb1, hq, hB⟩
  have hbef : Before (fun _ => none) E w0 q B s d w1 := ⟨hb.trans (hb1.mono hb.size), by have := hb.size; omega, by have := hb.size; omega, hbs, hbd, he, fun k o ho => by cases ho⟩
  clear hs hE hio hb1
  go_wp2_with fail
  refine (newImportReader_any hbef h1 HL.out).mono ?_; rintro e w2 ⟨p, rfl, hr⟩
  clear hbef h1
  go_wp2_with fail
  refine (peekByte_any true hr (by show (0 : Nat) < 10000; omega)).mono ?_; rintro e w3 ⟨rfl, h3⟩
  clear hr
  have HRC : Hid (readCm data = if (pk true (start data)).1.err = .no then some (if (pk true (start data)).1.eof = true then (pk true (start data)).1.buf else (pk true (start data)).1.buf.dropLast) else none) := Lib.hid rfl
  have HB : Hid ((pk true (start data)).1.go = true → (pk true (start data)).1.buf ≠ []) := Lib.hid (pk_buf true (start_good data))
  generalize (pk true (start data)).1 = T at *
  generalize (pk true (start data)).2 = c at *
  obtain ⟨hs3, c4, _, _⟩ := h3.sees
  obtain ⟨hbel, hbp, f1, htot, _, hgp⟩ := h3.facts
  rcases hs3 with ⟨hT, c3⟩ | ⟨hT, x, c3⟩
  · cases hf : T.eof
    · have hgo : T.go = true := by unfold RS.go; rw [hT, hf]; rfl
      have hbn := HB.out hgo
      obtain ⟨g, cap, c1, hlc, hcm, hbg, hbt⟩ := h3.bufAt hbn
      have hgp1 := hgp g cap c1
      obtain ⟨n, hn⟩ : ∃ n, T.buf.length = n + 1 := ⟨T.buf.length - 1, by have := List.length_pos_iff.2 hbn; omega⟩
      have HRI : Hid (readCm data = some T.buf.dropLast) := Lib.hid (by rw [HRC.out, if_pos hT, if_neg (by rw [hf]; simp)])
      have hbt3 : Bts w3 (some ⟨g, 0, none⟩) T.buf.dropLast := by rw [List.dropLast_eq_take]; exact hbt.takeN _
      have HDL : Hid (T.buf.dropLast.length = n) := Lib.hid (by rw [List.length_dropLast, hn]; rfl)
      rw [hf] at c4
      rw [hn] at c1 hlc
      have hn32 : n + 1 ≤ 4294967296 := by omega
      have b1 : (0 : Int) ≤ (n : Int) := by omega
      have b2 : (n : Int) ≤ (cap : Int) := by omega
      have b3 : IntKind.i64.wrap (n : Int) = (n : Int) := IntWalk.i64_in _ (by omega)
      have hcm2 : cap ≤ maxLen := hcm
      have HP := Lib.hid (⟨hbel, hbp, hgp1, hbt3⟩ : Below w0.heap.size w0 w3 ∧ w0.heap.size ≤ p ∧ g ≠ p ∧ Bts w3 (some ⟨g, 0, none⟩) T.buf.dropLast)
      clear h3 hT hf hgo hbn HB HRC hbt hbt3 hbel hbp hgp hgp1 htot
      go_wp2_with fail
      go_still_tail 14, (by kernel_rfl)
      change wpList _ _ _ _ _ w3.drew
      have f1d : w3.drew.frozen? ⟨p, 1, none⟩ = false := f1
      have c1d : w3.drew.cell? ⟨p, 1, none⟩ = _ := c1
      have c3d : w3.drew.cell? ⟨p, 3, none⟩ = _ := c3
      have HPd : Hid (Below w0.heap.size w0 w3.drew ∧ w0.heap.size ≤ p ∧ g ≠ p ∧ Bts w3.drew (some ⟨g, 0, none⟩) T.buf.dropLast) := Lib.hid ⟨below_drewN HP.out.1 1, HP.out.2.1, HP.out.2.2.1, Bts.onBlock HP.out.2.2.2 (Nat.le_refl _) rfl⟩
      clear f1 c1 c3 c4 HP
      generalize w3.drew = w4 at *
      go_wp2_with fail
      go_quiet (fail)
      go_wp2_with fail
      go_ret2
      refine ⟨_, _, rfl, below_drewN (HPd.out.1.setCell (p := ⟨p, 1, none⟩) HPd.out.2.1 _) nq, .inl ⟨T.buf.dropLast, some ⟨g, 0, none⟩, cap, HRI.out, rfl, by rw [HDL.out]; rfl, ?_⟩⟩
      have h8 : Bts (w4.setCell ⟨p, 1, none⟩ (.slice (some ⟨g, 0, none⟩) n cap)) (some ⟨g, 0, none⟩) T.buf.dropLast := Bts.onBlock HPd.out.2.2.2 (by simp [World.setCell]) (Below.heap_setCell _ _ _ _ HPd.out.2.2.1)
      exact h8.below (below_drewN (Below.refl _ _) nq)
    · obtain ⟨A, cap, c1, hbt⟩ := h3.bufAny
      have HRI : Hid (readCm data = some T.buf) := Lib.hid (by rw [HRC.out, if_pos hT, if_pos hf])
      have HP := Lib.hid (⟨hbel, hbt⟩ : Below w0.heap.size w0 w3 ∧ Bts w3 A T.buf)
      rw [hf] at c4
      clear h3 hT hf HB HRC hbt hbel hbp hgp f1 htot
      go_wp2_with fail
      go_quiet (fail)
      go_wp2_with fail
      go_ret2
      exact ⟨_, _, rfl, below_drewN HP.out.1 nq, .inl ⟨T.buf, A, cap, HRI.out, rfl, rfl, HP.out.2.below (below_drewN (Below.refl _ _) nq)⟩⟩
  · obtain ⟨A, cap, c1, hbt⟩ := h3.bufAny
    have HRI : Hid (readCm data = none) := Lib.hid (by rw [HRC.out, if_neg hT])
    have HP := Lib.hid hbel
    clear h3 hT HB HRC hbt hbel hbp hgp f1 htot
    go_wp2_with fail
    go_quiet (fail)
    go_wp2_with fail
    go_ret2
    exact ⟨_, _, rfl, below_drewN HP.out nq, .inr ⟨x, HRI.out, rfl⟩⟩
end GI
namespace GB
/-- Memory in which a reader can be made: what else there is, and where it begins. -/
structure Before (O : Nat → Option Obj) (E : EB) (w0 : World) (q B s d : Nat) (w : World) : Prop where
  below : Below w0.heap.size w0 w
  bq : w0.heap.size ≤ q
  bB : w0.heap.size ≤ B
  bs : w0.heap.size ≤ s
  bd : w0.heap.size ≤ d
  errs : E.Ok 7 8 w0
  keep : ∀ k o, O k = some o → w.heap[k]? = some o ∧ k ≠ q ∧ k ≠ B ∧ k ≠ s ∧ k ≠ d
theorem Before.fr {O : Nat → Option Obj} {E : EB} {w0 : World} {q B s d : Nat} {w w' : World} (h : Before O E w0 q B s d w) (hf : Fr [q, B, s] w w') : Before O E w0 q B s d w' :=
  ⟨h.below.trans (hf.below h.below.size (fun k hk => by simp at hk; have := h.bq; have := h.bB; have := h.bs; omega)), h.bq, h.bB, h.bs, h.bd, h.errs, fun k o ho => by
    obtain ⟨h1, h2, h3, h4, h5⟩ := h.keep k o ho
    exact ⟨(hf.block k (row_lt h1) (by simp [h2, h3, h4])).trans h1, h2, h3, h4, h5⟩⟩
theorem Before.bel {O : Nat → Option Obj} {E : EB} {w0 : World} {q B s d : Nat} {w w' : World} (h : Before O E w0 q B s d w) (hb : Below w.heap.size w w') : Before O E w0 q B s d w' :=
  ⟨h.below.trans (hb.mono h.below.size), h.bq, h.bB, h.bs, h.bd, h.errs, fun k o ho => by
    obtain ⟨h1, h2⟩ := h.keep k o ho
    exact ⟨(hb.block k (row_lt h1)).trans h1, h2⟩⟩
/-- The new reader's box. -/
theorem Rd.new {O : Nat → Option Obj} {E : EB} {w0 : World} {K : SK} {q B s d : Nat} {rest : List UInt8} {w : World} (h : Before O E w0 q B s d w) (hb : BufSt K E.eof q B s d rest w) (hl : rest.length ≤ 4294967296) :
    Rd O E w0 w.heap.size { rest := rest, buf := [], peek := 0, err := .no, eof := false, nerr := 0 } (w.alloc (.cells (rdCs q (.slice none 0 0) 0 .nilIface false 0) 88)) := by
  have hlt := GI.BufSt.lt hb
  have hbel : Below w.heap.size w (w.alloc (.cells (rdCs q (.slice none 0 0) 0 .nilIface false 0) 88)) := (Below.refl _ _).alloc (Nat.le_refl _) _
  have hb' := h.bel hbel
  refine ⟨K, q, B, s, d, .slice none 0 0, heap_alloc_new w _, ⟨rfl, .inl ⟨rfl, rfl⟩⟩, fun g hg => by simp [Value.ownBlock] at hg, GI.BufSt.below hb hbel, by omega, by omega, by omega, by omega, hb'.below, h.below.size, h.bq, h.bB, h.bs, h.bd, h.errs, by simpa using hl, fun k o ho => ?_⟩
  obtain ⟨h1, h2, h3, h4, h5⟩ := hb'.keep k o ho
  have := row_lt (h.keep k o ho).1
  exact ⟨h1, by omega, h2, h3, h4, h5, by simp [Value.ownBlock]⟩
def NewRd (O : Nat → Option Obj) (E : EB) (w0 : World) (data : List UInt8) (e : Ending) (w' : World) : Prop := ∃ p, e = .returned (.pointer (some ⟨p, 0, none⟩)) ∧ Rd O E w0 p (start data) w'


set_option maxRecDepth 100000 in
set_option maxHeartbeats 2000000 in
theorem newImportReader_any {E : EB} {w0 : World} {K : SK} {s d : Nat} {data : List UInt8} {w : World} (hs : SrcAt K w s d data) (hsd : d ≠ s) (hbs : w0.heap.size ≤ s) (hbd : w0.heap.size ≤ d) (hb : Below w0.heap.size w0 w)
    (he : E.Ok 7 8 w0) (hl : data.length ≤ 4294967296) :
    Calls Tryd.prog 57 #[.string ByteArray.empty, .iface (srcT K) (.pointer (some ⟨s, 0, none⟩))] w (NewRd (fun _ => none) E w0 data) := by
  have HL := Lib.hid hl
  clear hl
  have hE := he.below hb
  have hio : 2 ≠ s := by have := geof_lt he; omega
  go_enter Tryd.func57, Tryd.ntmps57
  go_wp2_with fail
  refine (newReader_any K E.eof s d data w hs hsd hE.ceof hio).mono ?_; rintro e w0' ⟨q, B, bs, rfl, h, hb1, hq, hB⟩
  have hb0 : Before (fun _ => none) E w0 q B s d w0' := ⟨hb.trans (hb1.mono hb.size), by have := hb.size; omega, by have := hb.size; omega, hbs, hbd, he, fun k o ho => by cases ho⟩
  clear hs hE hio hb1
  go_wp2_with fail
  refine (peek3_any h).mono ?_; rintro e w1 ⟨hF, n, bs1, l1, pe, lb1, lr1, h1, hu, ⟨hn, rfl⟩ | ⟨hs, v, rfl⟩⟩
  · have hb1 := hb0.fr hF
    obtain ⟨hbt, hlen, hdl⟩ := h1.head hn hu
    have HU := Lib.hid hu
    clear hb0 h hF hu
    go_wp2_with fail
    refine (bomB_any _).mono ?_; rintro e w2 ⟨b, rfl, hbm, hbel⟩
    have hb2 := hb1.bel hbel
    have h2 := h1.below hbel
    have hbt2 := hbt.below hbel
    have HLEN := Lib.hid hlen
    clear hb1 h1 hbt hbel hlen
    go_wp2_with fail
    refine (bytesEqual_any _ _ 3 3 _ _ (data.take 3) bomL HLEN.out rfl _ hbt2 hbm).mono ?_; rintro e w3 ⟨rfl, rfl⟩
    cases heq : (data.take 3 == bomL)
    · have HST : Hid (start data = { rest := data, buf := [], peek := 0, err := .no, eof := false, nerr := 0 }) := Lib.hid (by rw [start_rest]; unfold StartRest; rw [if_neg (by simpa using heq)])
      clear heq
      have hR := Rd.new hb2 ⟨_, _, _, _, _, _, _, h2, HU.out⟩ HL.out
      unfold rdCs at hR
      go_wp2_with fail
      go_ret
      refine ⟨_, rfl, ?_⟩
      rw [HST.out]
      exact hR
    · have HST : Hid (start data = { rest := data.drop 3, buf := [], peek := 0, err := .no, eof := false, nerr := 0 }) := Lib.hid (by rw [start_rest]; unfold StartRest; rw [if_pos (by simpa using heq)])
      clear heq
      go_wp2_with fail
      refine (discard3_any h2 hn).mono ?_; rintro e w4 ⟨⟨v, rfl⟩, hB4, hF4⟩
      rw [HU.out] at hB4
      have hR := Rd.new (hb2.fr hF4) hB4 (by have := HL.out; rw [List.length_drop]; omega)
      unfold rdCs at hR
      clear hb2 h2 hbt2 hbm hB4 hF4
      go_wp2_with fail
      go_ret
      refine ⟨_, rfl, ?_⟩
      rw [HST.out]
      exact hR
  · have hb1 := hb0.fr hF
    have HST : Hid (start data = { rest := data, buf := [], peek := 0, err := .no, eof := false, nerr := 0 }) := Lib.hid (by rw [start_rest, short_rest hs])
    have hR := Rd.new hb1 ⟨_, _, _, _, _, _, _, h1, hu⟩ HL.out
    unfold rdCs at hR
    clear hb0 hb1 h hF hu hs h1
    unfold errV
    go_wp2_with fail
    go_ret
    refine ⟨_, rfl, ?_⟩
    rw [HST.out]
    exact hR

theorem Rd.bufAt {O : Nat → Option Obj} {E : EB} {w0 : World} {p : Nat} {S : RS} {w : World} (h : Rd O E w0 p S w) (hb : S.buf ≠ []) : ∃ g cap, w.cell? ⟨p, 1, none⟩ = some (.slice (some ⟨g, 0, none⟩) S.buf.length cap) ∧ S.buf.length ≤ cap ∧ cap ≤ maxLen ∧ w0.heap.size ≤ g ∧ Bts w (some ⟨g, 0, none⟩) S.buf := by
  obtain ⟨K, q, B, s, d, V, h⟩ := h
  obtain ⟨g, cap, rfl, h1, h2, h3, h4⟩ := own_form h.own (List.length_pos_iff.2 hb)
  refine ⟨g, cap, h.cells.2.1, h1, h2, h3, ?_⟩
  have hr := Reads.of_own h.own
  exact hr
theorem Rd.bufAny {O : Nat → Option Obj} {E : EB} {w0 : World} {p : Nat} {S : RS} {w : World} (h : Rd O E w0 p S w) : ∃ A cap, w.cell? ⟨p, 1, none⟩ = some (.slice A S.buf.length cap) ∧ Bts w A S.buf := by
  by_cases hb : S.buf = []
  · obtain ⟨K, q, B, s, d, V, h⟩ := h
    have hc := h.cells.2.1
    have ho := h.own
    rw [hb] at ho ⊢
    rcases ho.2 with ⟨rfl, h0⟩ | ⟨g, cap, cur, rfl, _⟩
    · exact ⟨none, 0, hc, Bts.nil_ _ _⟩
    · exact ⟨_, cap, hc, Bts.nil_ _ _⟩
  · obtain ⟨g, cap, c1, _, _, _, hbt⟩ := h.bufAt hb
    exact ⟨_, cap, c1, hbt⟩

theorem Rd.facts {O : Nat → Option Obj} {E : EB} {w0 : World} {p : Nat} {S : RS} {w : World} (h : Rd O E w0 p S w) :
    Below w0.heap.size w0 w ∧ w0.heap.size ≤ p ∧ w.frozen? ⟨p, 1, none⟩ = false ∧ S.buf.length ≤ 4294967296 ∧ w.heap.size ≤ w.heap.size ∧ (∀ g cap, w.cell? ⟨p, 1, none⟩ = some (.slice (some ⟨g, 0, none⟩) S.buf.length cap) → g ≠ p) := by
  obtain ⟨K, q, B, s, d, V, h⟩ := h
  refine ⟨h.below, h.bp, h.thaw.1, by have := h.tot; omega, Nat.le_refl _, fun g cap hc => ?_⟩
  have hV := h.cells.2.1
  rw [hc] at hV
  injection hV with hV
  exact (h.vne g (by rw [← hV]; rfl)).1

set_option maxRecDepth 100000 in
set_option maxHeartbeats 2000000 in
theorem readComments_any {E : EB} {w0 : World} {K : SK} {s d : Nat} {data : List UInt8} {w : World} (hs : SrcAt K w s d data) (hsd : d ≠ s) (hbs : w0.heap.size ≤ s) (hbd : w0.heap.size ≤ d) (hb : Below w0.heap.size w0 w)
    (he : E.Ok 7 8 w0) (hlen : data.length ≤ 4294967296) :
    Calls Tryd.prog 46 #[.iface (srcT K) (.pointer (some ⟨s, 0, none⟩))] w (CmOut w0 (readCm data)) := by
  have HL := Lib.hid hlen
  clear hlen
  go_enter Tryd.func46, Tryd.ntmps46
  go_wp2_with fail
  refine (newImportReader_any hs hsd hbs hbd hb he HL.out).mono ?_; rintro e w2 ⟨p, rfl, hr⟩
  clear hs
  go_wp2_with fail
  refine (peekByte_any true hr (by show (0 : Nat) < 10000; omega)).mono ?_; rintro e w3 ⟨rfl, h3⟩
  clear hr
  have HRC : Hid (readCm data = if (pk true (start data)).1.err = .no then some (if (pk true (start data)).1.eof = true then (pk true (start data)).1.buf else (pk true (start data)).1.buf.dropLast) else none) := Lib.hid rfl
  have HB : Hid ((pk true (start data)).1.go = true → (pk true (start data)).1.buf ≠ []) := Lib.hid (pk_buf true (start_good data))
  generalize (pk true (start data)).1 = T at *
  generalize (pk true (start data)).2 = c at *
  obtain ⟨hs3, c4, _, _⟩ := h3.sees
  obtain ⟨hbel, hbp, f1, htot, _, hgp⟩ := h3.facts
  rcases hs3 with ⟨hT, c3⟩ | ⟨hT, x, c3⟩
  · cases hf : T.eof
    · have hgo : T.go = true := by unfold RS.go; rw [hT, hf]; rfl
      have hbn := HB.out hgo
      obtain ⟨g, cap, c1, hlc, hcm, hbg, hbt⟩ := h3.bufAt hbn
      have hgp1 := hgp g cap c1
      obtain ⟨n, hn⟩ : ∃ n, T.buf.length = n + 1 := ⟨T.buf.length - 1, by have := List.length_pos_iff.2 hbn; omega⟩
      have HRI : Hid (readCm data = some T.buf.dropLast) := Lib.hid (by rw [HRC.out, if_pos hT, if_neg (by rw [hf]; simp)])
      have hbt3 : Bts w3 (some ⟨g, 0, none⟩) T.buf.dropLast := by rw [List.dropLast_eq_take]; exact hbt.takeN _
      have HDL : Hid (T.buf.dropLast.length = n) := Lib.hid (by rw [List.length_dropLast, hn]; rfl)
      rw [hf] at c4
      rw [hn] at c1 hlc
      have hn32 : n + 1 ≤ 4294967296 := by omega
      have b1 : (0 : Int) ≤ (n : Int) := by omega
      have b2 : (n : Int) ≤ (cap : Int) := by omega
      have b3 : IntKind.i64.wrap (n : Int) = (n : Int) := IntWalk.i64_in _ (by omega)
      have hcm2 : cap ≤ maxLen := hcm
      have HP := Lib.hid (⟨hbel, hbp, hgp1, hbt3⟩ : Below w0.heap.size w0 w3 ∧ w0.heap.size ≤ p ∧ g ≠ p ∧ Bts w3 (some ⟨g, 0, none⟩) T.buf.dropLast)
      clear h3 hT hf hgo hbn HB HRC hbt hbt3 hbel hbp hgp hgp1 htot
      go_wp2_with fail
      go_still_tail 14, (by kernel_rfl)
      change wpList _ _ _ _ _ w3.drew
      have f1d : w3.drew.frozen? ⟨p, 1, none⟩ = false := f1
      have c1d : w3.drew.cell? ⟨p, 1, none⟩ = _ := c1
      have c3d : w3.drew.cell? ⟨p, 3, none⟩ = _ := c3
      have HPd : Hid (Below w0.heap.size w0 w3.drew ∧ w0.heap.size ≤ p ∧ g ≠ p ∧ Bts w3.drew (some ⟨g, 0, none⟩) T.buf.dropLast) := Lib.hid ⟨below_drewN HP.out.1 1, HP.out.2.1, HP.out.2.2.1, Bts.onBlock HP.out.2.2.2 (Nat.le_refl _) rfl⟩
      clear f1 c1 c3 c4 HP
      generalize w3.drew = w4 at *
      go_wp2_with fail
      go_quiet (fail)
      go_wp2_with fail
      go_ret2
      refine ⟨_, _, rfl, below_drewN (HPd.out.1.setCell (p := ⟨p, 1, none⟩) HPd.out.2.1 _) nq, .inl ⟨T.buf.dropLast, some ⟨g, 0, none⟩, cap, HRI.out, rfl, by rw [HDL.out]; rfl, ?_⟩⟩
      have h8 : Bts (w4.setCell ⟨p, 1, none⟩ (.slice (some ⟨g, 0, none⟩) n cap)) (some ⟨g, 0, none⟩) T.buf.dropLast := Bts.onBlock HPd.out.2.2.2 (by simp [World.setCell]) (Below.heap_setCell _ _ _ _ HPd.out.2.2.1)
      exact h8.below (below_drewN (Below.refl _ _) nq)
    · obtain ⟨A, cap, c1, hbt⟩ := h3.bufAny
      have HRI : Hid (readCm data = some T.buf) := Lib.hid (by rw [HRC.out, if_pos hT, if_pos hf])
      have HP := Lib.hid (⟨hbel, hbt⟩ : Below w0.heap.size w0 w3 ∧ Bts w3 A T.buf)
      rw [hf] at c4
      clear h3 hT hf HB HRC hbt hbel hbp hgp f1 htot
      go_wp2_with fail
      go_quiet (fail)
      go_wp2_with fail
      go_ret2
      exact ⟨_, _, rfl, below_drewN HP.out.1 nq, .inl ⟨T.buf, A, cap, HRI.out, rfl, rfl, HP.out.2.below (below_drewN (Below.refl _ _) nq)⟩⟩
  · obtain ⟨A, cap, c1, hbt⟩ := h3.bufAny
    have HRI : Hid (readCm data = none) := Lib.hid (by rw [HRC.out, if_neg hT])
    have HP := Lib.hid hbel
    clear h3 hT HB HRC hbt hbel hbp hgp f1 htot
    go_wp2_with fail
    go_quiet (fail)
    go_wp2_with fail
    go_ret2
    exact ⟨_, _, rfl, below_drewN HP.out nq, .inr ⟨x, HRI.out, rfl⟩⟩
end GB
end Go.Proofs.YtgplcbobomainaaDoor
