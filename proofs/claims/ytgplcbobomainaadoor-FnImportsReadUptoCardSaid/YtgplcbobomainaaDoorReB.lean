/-
  ReadImports of package goimports: the walk.
-/
import Derived.Test.YtgplcbobomainaaDoorReA
namespace Go.Proofs.YtgplcbobomainaaDoor.GI
open Go.RowKit
set_option linter.unusedVariables false
set_option linter.unusedSimpArgs false

section
variable {E : EB} {w0 : World} {p l : Nat} {S : RS} {ls : List ByteArray} {w w' : World}
theorem ims_step {R : RS × List ByteArray} (h : (pk true S).2 = 105) (hR : ((ims S).1, ls ++ (ims S).2.map bz) = R) :
    ((ims (decl (kw importK (pk true S).1)).1).1, (ls ++ (decl (kw importK (pk true S).1)).2.map bz) ++ (ims (decl (kw importK (pk true S).1)).1).2.map bz) = R := by
  rw [ims_more h] at hR
  rw [← hR, List.map_append, List.append_assoc]
theorem ims_last {R : RS × List ByteArray} (h : (pk true S).2 ≠ 105) (hR : ((ims S).1, ls ++ (ims S).2.map bz) = R) : ((pk true S).1, ls) = R := by
  rw [ims_end h] at hR
  rw [← hR]; simp
theorem grp_step {R : RS × List ByteArray} (h : (pk true S).2 ≠ 41) (he : (pk true S).1.err = .no) (hR : ((grp S).1, ls ++ (grp S).2.map bz) = R) :
    ((grp (imp (pk true S).1).1).1, (ls ++ (imp (pk true S).1).2.map bz) ++ (grp (imp (pk true S).1).1).2.map bz) = R := by
  rw [grp_more h he] at hR
  rw [← hR, List.map_append, List.append_assoc]
theorem grp_last {R : RS × List ByteArray} (h : (pk true S).2 = 41 ∨ (pk true S).1.err ≠ .no) (hR : ((grp S).1, ls ++ (grp S).2.map bz) = R) : ((pk true S).1, ls) = R := by
  have e : grp S = ((pk true S).1, []) := by
    rcases h with h | h
    · exact grp_end1 h
    · exact grp_end2 h
  rw [e] at hR
  rw [← hR]; simp
theorem ImInv.decl_ (h : ImInv E w0 p l S ls w) (h105 : (pk true S).2 = 105) (hr : RdL E w0 p l (decl (kw importK (pk true S).1)).1 (ls ++ (decl (kw importK (pk true S).1)).2.map bz) w') :
    ImInv E w0 p l (decl (kw importK (pk true S).1)).1 (ls ++ (decl (kw importK (pk true S).1)).2.map bz) w' := by
  have he : S.err = .no := pk_no_of (by rw [h105]; decide)
  refine ⟨hr, h.ne.step he (((pk_nb true S).trans (kw_nb _ _ importK_nz) (kw_le _ _)).trans (decl_nb _) (decl_le _)) (by omega), decl_good (kw_good _ (pk_nz h.good)), ?_⟩
  have h1 := decl_rest (kw importK (pk true S).1)
  have h2 := ((kw_le importK (pk true S).1).trans (pk_le true S)).rest
  have h3 := h.len
  rw [List.length_append, List.length_map]
  omega
theorem ImInv.grp0 (h : ImInv E w0 p l S ls w) (h105 : (pk true S).2 = 105) (hr : RdL E w0 p l (nx false (pk true (kw importK (pk true S).1)).1).1 ls w') : ImInv E w0 p l (nx false (pk true (kw importK (pk true S).1)).1).1 ls w' := by
  have he : S.err = .no := pk_no_of (by rw [h105]; decide)
  refine ⟨hr, h.ne.step he ((((pk_nb true S).trans (kw_nb _ _ importK_nz) (kw_le _ _)).trans (pk_nb true _) (pk_le _ _)).trans (nx_nb false _) (nx_le _ _)) (by omega), nx_goodS _ _, ?_⟩
  have h2 := ((nx_le false (pk true (kw importK (pk true S).1)).1).trans ((pk_le true _).trans ((kw_le importK (pk true S).1).trans (pk_le true S)))).rest
  have h3 := h.len
  omega
theorem ImInv.imp_ (h : ImInv E w0 p l S ls w) (he1 : (pk true S).1.err = .no) (hr : RdL E w0 p l (imp (pk true S).1).1 (ls ++ (imp (pk true S).1).2.map bz) w') :
    ImInv E w0 p l (imp (pk true S).1).1 (ls ++ (imp (pk true S).1).2.map bz) w' := by
  have he : S.err = .no := pk_err_of he1
  refine ⟨hr, h.ne.step he ((pk_nb true S).trans (imp_nb _) (imp_le _)) (by omega), imp_good _, ?_⟩
  have h1 := imp_rest (pk true S).1
  have h2 := (pk_le true S).rest
  have h3 := h.len
  rw [List.length_append, List.length_map]
  omega
theorem Rd.lenB {O : Nat → Option Obj} (h : Rd O E w0 p S w) : S.buf.length ≤ 4294967296 := by
  obtain ⟨K, q, B, s, d, V, h⟩ := h
  have := h.tot; omega
theorem err_nil (b : Addr) (w : World) : (binOp .eql 48 .nilIface (errV b)).run Tryd.prog w = .ok (.bool false) w :=
  run_eql_iface_nil_left w _ _ Tryd.underlying48
theorem decl_one {K : RS} (h : (pk true K).2 ≠ 40) : decl K = imp (pk true K).1 := by unfold decl; rw [if_neg h]
theorem decl_grp {K : RS} (h : (pk true K).2 = 40) : decl K = ((nx false (grp (nx false (pk true K).1).1).1).1, (grp (nx false (pk true K).1).1).2) := by unfold decl; rw [if_pos h]
end

set_option maxRecDepth 100000 in
set_option maxHeartbeats 4000000 in
theorem readImports_any {O : Nat → Option Obj} {E : EB} {w0 : World} {K : SK} {s d l : Nat} {LV : Value} {data : List UInt8} {w : World} (rep : Bool) (hs : SrcAt K w s d data) (hsd : d ≠ s) (hbs : w0.heap.size ≤ s) (hbd : w0.heap.size ≤ d) (hb : Below w0.heap.size w0 w)
    (he : E.Ok 1 0 w0) (hO : ∀ k o, O k = some o → w.heap[k]? = some o ∧ k ≠ s ∧ k ≠ d) (hl : LsA O w0.heap.size l LV [] w) (hlen : data.length ≤ 4294967296) :
    Calls Tryd.prog 27 #[.iface (srcT K) (.pointer (some ⟨s, 0, none⟩)), .bool rep, .pointer (some ⟨l, 0, none⟩)] w fun e w' => ∃ p, ImOut E w0 p l (readIm rep data) e w' := by
  have HL := Lib.hid hlen
  clear hlen
  have hE := he.below hb
  go_enter Tryd.func27, Tryd.ntmps27
  go_wp2_with fail
  have hio : 2 ≠ s := by have := geof_lt he; omega
  refine (newReader_any K E.eof s d data w hs hsd hE.ceof hio).mono ?_; rintro e w1 ⟨q, B, bs, rfl, h1, hb1, hq, hB⟩
  have hbef : Before O E w0 q B s d w1 := ⟨hb.trans (hb1.mono hb.size), by have := hb.size; omega, by have := hb.size; omega, hbs, hbd, he, fun k o ho => by
    obtain ⟨h2, h3, h4⟩ := hO k o ho
    have := row_lt h2
    exact ⟨(hb1.block k this).trans h2, by omega, by omega, h3, h4⟩⟩
  have hl1 : LsA O w0.heap.size l LV [] w1 := ⟨hl.lcell, ownsRow_keep hl.own (fun g hg => by
    obtain ⟨o, ho⟩ := hl.okeep g hg
    exact hb1.block g (row_lt (hO g o ho).1)), hl.okeep, hl.lne, hl.ob, hl.ol⟩
  have hO1 : ∀ k o, O k = some o → w1.heap[k]? = some o := fun k o ho => (hbef.keep k o ho).1
  clear hs hE hio hb1 hO hl
  go_wp2_with fail
  refine (newImportReader_any hbef h1 HL.out).mono ?_; rintro e w2 ⟨p, rfl, hr⟩
  have h2 : RdL E w0 p l (start data) [] w2 := ⟨O, LV, hr, ⟨hl1.lcell, ownsRow_keep hl1.own (fun g hg => by
    obtain ⟨o, ho⟩ := hl1.okeep g hg
    rw [hr.obj ho, hO1 g o ho]), hl1.okeep, hl1.lne, hl1.ob, hl1.ol⟩⟩
  have hst : Good (start data) ∧ (start data).nerr = 0 ∧ (start data).err = .no ∧ (start data).rest.length ≤ 4294967296 := ⟨fun e => absurd rfl e, rfl, rfl, by
    have := HL.out
    rw [start_rest]
    show (StartRest data).length ≤ _
    unfold StartRest
    split
    · rw [List.length_drop]; omega
    · exact this⟩
  clear hr hl1 hO1 hbef h1
  have HSTOP : Hid (stop data = ims (ident (kw packageK (start data)))) := Lib.hid rfl
  generalize start data = S0 at *
  go_wp2_with fail
  refine (lift h2 (fun O h => readKeyword_any ⟨#[112, 97, 99, 107, 97, 103, 101]⟩ (by decide) (by decide) h (by omega))).mono ?_; rintro e w3 ⟨rfl, h3⟩
  change RdL E w0 p l (kw packageK S0) [] w3 at h3
  have hk1 := (kw_nb packageK S0 packageK_nz).le
  clear h2
  go_wp2_with fail
  refine (lift h3 (fun O h => readIdent_any h (by omega))).mono ?_; rintro e w4 ⟨rfl, h4⟩
  have hI : ImInv E w0 p l (ident (kw packageK S0)) [] w4 := by
    have n5 := (kw_nb packageK S0 packageK_nz).trans (ident_nb _) (ident_le _)
    have l5 := ((ident_le _).trans (kw_le packageK S0)).rest
    exact ⟨h4, ⟨fun e => (n5.same e).trans hst.2.1, by have := n5.le; omega⟩, ident_good (kw_good _ hst.1), by have := hst.2.2.2; simp; omega⟩
  clear h3 h4 hk1 hst
  generalize ident (kw packageK S0) = S1 at *
  obtain ⟨R, HR⟩ : ∃ R, Hid (((ims S1).1, ([] : List ByteArray) ++ (ims S1).2.map bz) = R) := ⟨_, Lib.hid rfl⟩
  have HSR : Hid ((stop data).1 = R.1 ∧ (stop data).2.map bz = R.2) := Lib.hid (by rw [HSTOP.out, ← HR.out]; exact ⟨rfl, by simp⟩)
  have HG : Hid (R.1.go = true → R.1.buf ≠ []) := Lib.hid (by rw [← HR.out]; exact ims_buf S1 hI.good)
  go_wp2_with fail
  go_loopg [] (S1.m2) (fun k wr => ImsRel E w0 p l R k wr)
  case atStart => exact ⟨S1, [], hI, HR.out, Nat.le_refl _⟩
  case round =>
    obtain ⟨S2, ls2, hI2, hrel2, hk⟩ := hrel
    have HREL := Lib.hid hrel2
    clear hrel2 hI HR
    have hn2 := hI2.ne.2
    obtain ⟨k0, rfl⟩ : ∃ k0, k0 = gk := ⟨_, rfl⟩
    go_wp2_with fail
    refine (lift hI2.rd (fun O h => peekByte_any true h (by omega))).mono ?_; rintro e w5 ⟨rfl, h5⟩
    by_cases h105 : (pk true S2).2 = 105
    · have e105 : (((pk true S2).2.toNat : Int) == 105) = true := byte_eq (c := 105) h105
      have HST := Lib.hid (ims_step h105 HREL.out)
      have HLT : Hid ((decl (kw importK (pk true S2).1)).1.m2 < S2.m2) := Lib.hid (Nat.lt_of_le_of_lt (decl_m2 _) (kw_lt h105))
      have HD : Hid (∀ w' : World, RdL E w0 p l (decl (kw importK (pk true S2).1)).1 (ls2 ++ (decl (kw importK (pk true S2).1)).2.map bz) w' → ImInv E w0 p l (decl (kw importK (pk true S2).1)).1 (ls2 ++ (decl (kw importK (pk true S2).1)).2.map bz) w') := Lib.hid (fun w' hr => ImInv.decl_ hI2 h105 hr)
      have HG0 : Hid (∀ w' : World, RdL E w0 p l (nx false (pk true (kw importK (pk true S2).1)).1).1 ls2 w' → ImInv E w0 p l (nx false (pk true (kw importK (pk true S2).1)).1).1 ls2 w') := Lib.hid (fun w' hr => hI2.grp0 h105 hr)
      have hls2 : ls2.length ≤ 4294967296 := by have := hI2.len; omega
      have hn5 := (pk_nb true S2).le
      have hn6 := (kw_nb importK (pk true S2).1 importK_nz).le
      have hgk := kw_good importK (pk_nz (sk := true) hI2.good)
      clear HREL hI2 h105 HG
      generalize (pk true S2).1 = S3 at *
      go_wp2_with fail
      refine (lift h5 (fun O h => readKeyword_any ⟨#[105, 109, 112, 111, 114, 116]⟩ (by decide) (by decide) h (by omega))).mono ?_; rintro e w6 ⟨rfl, h6⟩
      change RdL E w0 p l (kw importK S3) ls2 w6 at h6
      clear h5
      generalize kw importK S3 = S4 at *
      go_wp2_with fail
      refine (lift h6 (fun O h => peekByte_any true h (by omega))).mono ?_; rintro e w7 ⟨rfl, h7⟩
      have hn7 := (pk_nb true S4).le
      clear h6
      by_cases h40 : (pk true S4).2 = 40
      · have e40 : (((pk true S4).2.toNat : Int) == 40) = true := byte_eq (c := 40) h40
        have HDG := Lib.hid (decl_grp h40)
        clear h40
        go_wp2_with fail
        refine (lift h7 (fun O h => nextByte_any false h (by omega))).mono ?_; rintro e w8 ⟨rfl, h8⟩
        have hI8 := HG0.out _ h8
        clear h7 h8 HG0
        generalize (nx false (pk true S4).1).1 = S5 at *
        obtain ⟨R2, HR2⟩ : ∃ R2, Hid (((grp S5).1, ls2 ++ (grp S5).2.map bz) = R2) := ⟨_, Lib.hid rfl⟩
        go_wp2_with fail
        go_loopg [] (S5.m2) (fun k wr => GrpRel E w0 p l R2 k wr)
        case atStart => exact ⟨S5, ls2, hI8, HR2.out, Nat.le_refl _⟩
        case round =>
          obtain ⟨S6, ls6, hI6, hrel6, hk6⟩ := hrel
          have HREL6 := Lib.hid hrel6
          clear hrel6 hI8
          have hn6b := hI6.ne.2
          go_wp2_with fail
          refine (lift hI6.rd (fun O h => peekByte_any true h (by omega))).mono ?_; rintro e w9 ⟨rfl, h9⟩
          have hn9 := (pk_nb true S6).le
          obtain ⟨hs9, _, _, _⟩ := h9.sees
          have hls6 : ls6.length ≤ 4294967296 := by have := hI6.len; omega
          by_cases h41 : (pk true S6).2 = 41
          · have e41 : (((pk true S6).2.toNat : Int) == 41) = true := byte_eq (c := 41) h41
            have e41b : (((pk true S6).2.toNat : Int) != 41) = false := by rw [bne, e41]; rfl
            have HE : Hid (((pk true S6).1, ls6) = R2) := Lib.hid (grp_last (.inl h41) HREL6.out)
            have HEQ : Hid ((nx false (pk true S6).1).1 = (decl S4).1 ∧ ls6 = ls2 ++ (decl S4).2.map bz) := Lib.hid (by
              have e := HE.out.trans HR2.out.symm
              injection e with e1 e2
              rw [HDG.out, ← e1, ← e2]; exact ⟨rfl, rfl⟩)
            clear HE HREL6
            go_wp2_with fail
            refine (lift h9 (fun O h => nextByte_any false h (by omega))).mono ?_; rintro e w10 ⟨rfl, h10⟩
            rw [HEQ.out.1, HEQ.out.2] at h10
            have hI10 := HD.out _ h10
            clear h9 h10
            go_wp2_with fail
            go_roundg (k0 - 1)
            case rel => exact ⟨_, _, hI10, HST.out, by have := HLT.out; omega⟩
            all_goals (have := HLT.out; omega)
          · have e41 : (((pk true S6).2.toNat : Int) == 41) = false := byte_ne (c := 41) h41
            have e41b : (((pk true S6).2.toNat : Int) != 41) = true := by rw [bne, e41]; rfl
            rcases hs9 with ⟨he9, e3⟩ | ⟨he9, b9, e3⟩
            · have HS6 := Lib.hid (grp_step h41 he9 HREL6.out)
              have hg9 := pk_nz (sk := true) hI6.good
              have HLT6 : Hid ((imp (pk true S6).1).1.m2 < S6.m2) := Lib.hid (Nat.lt_of_lt_of_le (imp_lt he9) (pk_m2 _ _))
              have HI6 : Hid (∀ w' : World, RdL E w0 p l (imp (pk true S6).1).1 (ls6 ++ (imp (pk true S6).1).2.map bz) w' → ImInv E w0 p l (imp (pk true S6).1).1 (ls6 ++ (imp (pk true S6).1).2.map bz) w') := Lib.hid (fun w' hr => ImInv.imp_ hI6 he9 hr)
              clear HREL6 h41 he9 hI6
              go_wp2_with fail
              refine (readImport_any h9 hg9 (by omega) hls6).mono ?_; rintro e w10 ⟨rfl, h10⟩
              have hI10 := HI6.out _ h10
              clear h9 h10
              go_wp2_with fail
              go_roundg (gk - 1)
              case rel => exact ⟨_, _, hI10, HS6.out, by have := HLT6.out; omega⟩
              all_goals (have := HLT6.out; omega)
            · clear h41
              have HE : Hid (((pk true S6).1, ls6) = R2) := Lib.hid (grp_last (.inr he9) HREL6.out)
              have HEQ : Hid ((nx false (pk true S6).1).1 = (decl S4).1 ∧ ls6 = ls2 ++ (decl S4).2.map bz) := Lib.hid (by
                have e := HE.out.trans HR2.out.symm
                injection e with e1 e2
                rw [HDG.out, ← e1, ← e2]; exact ⟨rfl, rfl⟩)
              clear HE HREL6
              go_wp2_with fail
              refine (lift h9 (fun O h => nextByte_any false h (by omega))).mono ?_; rintro e w10 ⟨rfl, h10⟩
              rw [HEQ.out.1, HEQ.out.2] at h10
              have hI10 := HD.out _ h10
              clear h9 h10
              go_wp2_with fail
              go_roundg (k0 - 1)
              case rel => exact ⟨_, _, hI10, HST.out, by have := HLT.out; omega⟩
              all_goals (have := HLT.out; omega)
      · have e40 : (((pk true S4).2.toNat : Int) == 40) = false := byte_ne (c := 40) h40
        have HDG := Lib.hid (decl_one h40)
        have hg7 := pk_nz (sk := true) hgk
        clear h40 HG0
        go_wp2_with fail
        refine (readImport_any h7 hg7 (by omega) hls2).mono ?_; rintro e w8 ⟨rfl, h8⟩
        rw [← HDG.out] at h8
        have hI8 := HD.out _ h8
        clear h7 h8 HDG
        go_wp2_with fail
        go_roundg (k0 - 1)
        case rel => exact ⟨_, _, hI8, HST.out, by have := HLT.out; omega⟩
        all_goals (have := HLT.out; omega)
    · have e105 : (((pk true S2).2.toNat : Int) == 105) = false := byte_ne (c := 105) h105
      have HST := Lib.hid (ims_last h105 HREL.out)
      have HS : Hid ((stop data).1 = (pk true S2).1 ∧ (stop data).2.map bz = ls2) := Lib.hid (by rw [HSR.out.1, HSR.out.2, ← HST.out]; exact ⟨rfl, rfl⟩)
      have HB : Hid ((pk true S2).1.go = true → (pk true S2).1.buf ≠ []) := Lib.hid (by have := HG.out; rw [← HST.out] at this; exact this)
      clear HST HREL hI2 h105 HSTOP HG HSR hn2
      generalize (pk true S2).1 = T at *
      generalize (pk true S2).2 = c at *
      obtain ⟨_, c4, _, _⟩ := h5.sees
      obtain ⟨c3, f3, hE⟩ := h5.errC
      obtain ⟨A, cap, c1, hbt⟩ := h5.bufAny
      have cS := hE.csyn
      rcases hT : T.err with _ | _ | _
      · rw [hT] at c3
        cases hf : T.eof
        · have hgo := go_of hT hf
          have hbn := HB.out hgo
          obtain ⟨O5, LV5, hr5, hl5⟩ := h5
          obtain ⟨g, cap2, d1, hlc, hcm, hbg, hbt2⟩ := hr5.bufAt hbn
          obtain ⟨n, hn⟩ : ∃ n, T.buf.length = n + 1 := ⟨T.buf.length - 1, by have := List.length_pos_iff.2 hbn; omega⟩
          have HRI : Hid (readIm rep data = some (T.buf.dropLast, (stop data).2)) := Lib.hid (by unfold readIm; rw [HS.out.1, if_pos hgo])
          have hbt3 : Bts w5 (some ⟨g, 0, none⟩) T.buf.dropLast := by rw [List.dropLast_eq_take]; exact hbt2.takeN _
          have HDL : Hid (T.buf.dropLast.length = n) := Lib.hid (by rw [List.length_dropLast, hn]; rfl)
          have hR : RdL E w0 p l T ls2 w5 := ⟨O5, LV5, hr5, hl5⟩
          rw [hf] at c4
          rw [hn] at d1 hlc
          have b1 : (0 : Int) ≤ (n : Int) := by omega
          have b2 : (n : Int) ≤ (cap2 : Int) := by omega
          have hn32 : n + 1 ≤ 4294967296 := by have := hr5.lenB; omega
          have b3 : IntKind.i64.wrap (n : Int) = (n : Int) := IntWalk.i64_in _ (by omega)
          have hcm2 : cap2 ≤ maxLen := hcm
          clear hr5 hl5 c1 hbt hbt2 hT hf hgo hbn HB hE cS
          unfold errOf at c3
          go_wp2_with fail
          go_quiet (fail)
          go_wp2_with fail
          go_ret2
          exact ⟨p, _, _, T, ls2, rfl, hR.drewN nq, .inl ⟨T.buf.dropLast, (stop data).2, some ⟨g, 0, none⟩, cap2, HRI.out, rfl, HS.out.2.symm, by rw [HDL.out]; rfl, hbt3.below (below_drewN (Below.refl _ _) nq)⟩⟩
        · have HRI : Hid (readIm rep data = some (T.buf, (stop data).2)) := Lib.hid (by
            unfold readIm
            rw [HS.out.1, if_neg (by unfold RS.go; rw [hf]; simp), if_neg (by rw [hT]; simp), if_pos hT])
          have HR := Lib.hid h5
          have HBT := Lib.hid hbt
          rw [hf] at c4
          clear h5 hbt hT hf HB hE
          unfold errOf at c3
          have heq : ∀ w' : World, (binOp .eql 48 .nilIface (errV E.syn)).run Tryd.prog w' = .ok (.bool false) w' := fun w' => err_nil E.syn w'
          unfold errV at cS heq
          go_wp2_with fail
          go_quiet (fail)
          obtain ⟨nq1, rfl⟩ : ∃ x, x = nq := ⟨_, rfl⟩
          go_wp2_with fail
          go_quiet (fail)
          go_wp2_with fail
          go_ret2
          exact ⟨p, _, _, T, ls2, rfl, (HR.out.drewN nq1).drewN nq, .inl ⟨T.buf, (stop data).2, A, cap, HRI.out, rfl, HS.out.2.symm, rfl, (HBT.out.below (below_drewN (Below.refl _ _) nq1)).below (below_drewN (Below.refl _ _) nq)⟩⟩
      · rw [hT] at c3
        have heq : ∀ w' : World, (binOp .eql 48 (errV E.syn) (errV E.syn)).run Tryd.prog w' = .ok (.bool true) w' := fun w' => err_same E.syn w'
        have HR := Lib.hid h5
        have HBT := Lib.hid hbt
        have HT := Lib.hid hT
        unfold errOf at c3
        unfold errV at c3 cS heq
        clear h5 hbt hT HB hE f3
        cases rep
        · have HRI : Hid (readIm false data = if (whole { T with err := .no }).err = .no then some ((whole { T with err := .no }).buf, (stop data).2) else none) := Lib.hid (by
            unfold readIm
            rw [HS.out.1, if_neg (by unfold RS.go; rw [HT.out]; simp), if_pos ⟨HT.out, rfl⟩])
          go_wp2_with fail
          go_quiet (fail)
          have h6 := HR.out.drewN nq
          clear HR HBT c1 c3 c4 cS heq HT
          generalize w5.drewN nq = w6 at *
          obtain ⟨c3, f3, _⟩ := h6.errC
          have h7 := h6.clear
          clear h6
          go_wp2_with fail
          clear c3 f3
          generalize w6.setCell ⟨p, 3, none⟩ .nilIface = w7 at *
          obtain ⟨R3, HR3⟩ : ∃ R3, Hid (whole { T with err := .no } = R3) := ⟨_, Lib.hid rfl⟩
          rw [HR3.out] at HRI
          generalize hT7 : ({ T with err := .no } : RS) = T7 at *
          clear hT7
          go_loopg [] (T7.mu) (fun k wr => WhRel E w0 p l R3 ls2 k wr)
          case atStart => exact ⟨T7, h7, HR3.out, Nat.le_refl _⟩
          case round =>
            obtain ⟨S8, h8, hw8, hk8⟩ := hrel
            clear h7 HR3
            obtain ⟨hs8, d4, _, _⟩ := h8.sees
            rcases hs8 with ⟨he8, d3⟩ | ⟨he8, b8, d3⟩
            · cases hf8 : S8.eof
              · have hgo8 := go_of he8 hf8
                have HW := Lib.hid ((whole_on hgo8).symm.trans hw8)
                have HLT : Hid ((rb S8).1.mu < S8.mu) := Lib.hid (rb_lt hf8)
                rw [hf8] at d4
                clear hw8 he8 hf8 hgo8
                go_wp2_with fail
                refine (lift h8 (fun O h => readByte_any h)).mono ?_; rintro e w9 ⟨rfl, h9⟩
                clear h8
                go_wp2_with fail
                go_roundg (gk - 1)
                case rel => exact ⟨_, h9, HW.out, by have := HLT.out; omega⟩
                all_goals (have := HLT.out; omega)
              · have hw9 : S8 = R3 := (whole_off (by unfold RS.go; rw [hf8]; simp)).symm.trans hw8
                have HRJ : Hid (readIm false data = some (S8.buf, (stop data).2)) := Lib.hid (by rw [HRI.out, if_pos (by rw [← hw9]; exact he8), ← hw9])
                obtain ⟨A8, cap8, e1, hbt8⟩ := h8.bufAny
                have HR8 := Lib.hid h8
                have HBT8 := Lib.hid hbt8
                rw [hf8] at d4
                clear h8 hbt8 hw8 hw9 he8 hf8 HRI
                go_wp2_with fail
                go_quiet (fail)
                go_wp2_with fail
                go_ret2
                exact ⟨p, _, _, S8, ls2, rfl, HR8.out.drewN nq, .inl ⟨S8.buf, (stop data).2, A8, cap8, HRJ.out, rfl, HS.out.2.symm, rfl, HBT8.out.below (below_drewN (Below.refl _ _) nq)⟩⟩
            · have hw9 : S8 = R3 := (whole_off (by unfold RS.go; simp [he8])).symm.trans hw8
              have HRJ : Hid (readIm false data = none) := Lib.hid (by rw [HRI.out, if_neg (by rw [← hw9]; exact he8)])
              obtain ⟨A8, cap8, e1, hbt8⟩ := h8.bufAny
              have HR8 := Lib.hid h8
              clear h8 hbt8 hw8 hw9 he8 HRI
              go_wp2_with fail
              go_quiet (fail)
              go_wp2_with fail
              go_ret2
              exact ⟨p, _, _, S8, ls2, rfl, HR8.out.drewN nq, .inr ⟨b8, HRJ.out, rfl⟩⟩
        · have HRI : Hid (readIm true data = none) := Lib.hid (by
            unfold readIm
            rw [HS.out.1, if_neg (by unfold RS.go; rw [HT.out]; simp), if_neg (by simp), if_neg (by rw [HT.out]; simp)])
          go_wp2_with fail
          go_quiet (fail)
          obtain ⟨nq1, rfl⟩ : ∃ x, x = nq := ⟨_, rfl⟩
          go_wp2_with fail
          go_quiet (fail)
          go_wp2_with fail
          go_ret2
          exact ⟨p, _, _, T, ls2, rfl, (HR.out.drewN nq1).drewN nq, .inr ⟨E.syn, HRI.out, rfl⟩⟩
      · rw [hT] at c3
        have heq : ∀ n : Nat, (binOp .eql 48 (errV E.nul) (errV E.syn)).run Tryd.prog (w5.drewN n) = .ok (.bool false) (w5.drewN n) := fun n => err_other hE.ns (hE.bnul.below (below_drewN (Below.refl _ _) n)) (hE.bsyn.below (below_drewN (Below.refl _ _) n))
        have HR := Lib.hid h5
        have HRI : Hid (readIm rep data = none) := Lib.hid (by
          unfold readIm
          rw [HS.out.1, if_neg (by unfold RS.go; rw [hT]; simp), if_neg (by rw [hT]; simp), if_neg (by rw [hT]; simp)])
        unfold errOf at c3
        unfold errV at c3 cS heq
        clear h5 hbt hT HB hE f3
        go_wp2_with fail
        go_quiet (fail)
        obtain ⟨nq1, rfl⟩ : ∃ x, x = nq := ⟨_, rfl⟩
        go_wp2_with fail
        go_quiet (fail)
        go_wp2_with fail
        go_ret2
        exact ⟨p, _, _, T, ls2, rfl, (HR.out.drewN nq1).drewN nq, .inr ⟨E.nul, HRI.out, rfl⟩⟩
end Go.Proofs.YtgplcbobomainaaDoor.GI
