/-
  readString, readImport.
-/
import Derived.Test.YtgplcbobomainaaDoorRdV
namespace Go.Proofs.YtgplcbobomainaaDoor.GI
open Go.RowKit
set_option linter.unusedVariables false
set_option linter.unusedSimpArgs false

theorem raw_hit {S : RS} (he : S.err = .no) (h : (nx false S).2 = 96) : raw S = ((nx false S).1, true) := by rw [raw, dif_pos he, if_pos h]
theorem raw_more {S : RS} (he : S.err = .no) (h : (nx false S).2 ≠ 96) : raw S = raw (estep false (nx false S).1) := by rw [raw, dif_pos he, if_neg h]
theorem raw_off {S : RS} (he : S.err ≠ .no) : raw S = (S, false) := by rw [raw, dif_neg he]
theorem quo_hit {S : RS} (he : S.err = .no) (h : (nx false S).2 = 34) : quo S = ((nx false S).1, true) := by rw [quo, dif_pos he, if_pos h]
theorem quo_more {S : RS} (he : S.err = .no) (h : (nx false S).2 ≠ 34) : quo S = quo (after (nx false S).2 (estep ((nx false S).2 == 10) (nx false S).1)) := by rw [quo, dif_pos he, if_neg h]
theorem quo_off {S : RS} (he : S.err ≠ .no) : quo S = (S, false) := by rw [quo, dif_neg he]
def LitRel (E : EB) (w0 : World) (p l : Nat) (step : RS → RS × Bool) (R : RS × Bool) (ls : List ByteArray) (st n0 : Nat) (k : Nat) (w : World) : Prop :=
  ∃ S : RS, RdL E w0 p l S ls w ∧ step S = R ∧ S.nerr ≤ n0 ∧ st < S.buf.length ∧ Good S ∧ S.m2 ≤ k
def QuoRel (E : EB) (w0 : World) (p l : Nat) (step : RS → RS × Bool) (R : RS × Bool) (ls : List ByteArray) (st n0 : Nat) (k : Nat) (w : World) : Prop :=
  ∃ S : RS, RdL E w0 p l S ls w ∧ step S = R ∧ (S.nerr ≤ n0 + 1 ∧ (S.err = .no → S.nerr ≤ n0)) ∧ st < S.buf.length ∧ Good S ∧ S.m2 ≤ k
theorem nx_goodS (sk : Bool) (S : RS) : Good (nx sk S).1 := fun h => absurd rfl h
theorem syn_good {S : RS} (h : Good S) : Good (syn S) := by
  unfold syn
  split
  · exact h
  · exact h
theorem estep_good {b : Bool} {S : RS} (h : Good S) : Good (estep b S) := by
  unfold estep
  split
  · exact syn_good h
  · exact h
theorem after_good {c : UInt8} {S : RS} (h : Good S) : Good (after c S) := by
  unfold after
  split
  · exact nx_goodS _ _
  · exact h
theorem out14 (b j : Nat) (h : j ∉ [b, b + 1, b + 2, b + 3, b + 4, b + 5, b + 6, b + 7, b + 8, b + 9, b + 10, b + 11, b + 12, b + 13]) : j < b ∨ b + 13 < j := by
  simp only [List.mem_cons, List.not_mem_nil, or_false, not_or] at h
  omega

set_option maxRecDepth 100000 in
set_option maxHeartbeats 4000000 in
theorem readString_any {E : EB} {w0 : World} {p l : Nat} {S : RS} {ls : List ByteArray} {w : World} (h : RdL E w0 p l S ls w) (hg : Good S) (hn : S.nerr ≤ 8000) (hls : ls.length ≤ 4294967296) :
    Calls Tryd.prog 55 #[.pointer (some ⟨p, 0, none⟩), .pointer (some ⟨l, 0, none⟩)] w fun e w' => e = .returned (.tuple #[]) ∧ RdL E w0 p l (str S).1 (ls ++ (str S).2.map (fun b => ⟨b.toArray⟩)) w' := by
  have hn2 : (nx true S).1.nerr ≤ 8001 := by have := (nx_nb true S).le; omega
  have hgd := nx_good true hg
  go_enter Tryd.func55, Tryd.ntmps55
  go_wp2_with fail
  refine (lift h (fun O h => nextByte_any true h (by omega))).mono ?_; rintro e w1 ⟨rfl, h1⟩
  clear h
  by_cases h96 : (nx true S).2 = 96
  · have e96 : (((nx true S).2.toNat : Int) == 96) = true := byte_eq (c := 96) h96
    have hbn := hgd (by rw [h96]; decide)
    obtain ⟨R, HR⟩ : ∃ R, Hid (raw (nx true S).1 = R) := ⟨_, Lib.hid rfl⟩
    have HS : Hid (str S = (R.1, saved ((nx true S).1.buf.length - 1) R)) := Lib.hid (by unfold str; rw [if_pos h96, HR.out])
    have hgs := nx_goodS true S
    clear h96 hgd hg hn
    generalize (nx true S).2 = y at *
    generalize (nx true S).1 = S1 at *
    obtain ⟨st, hst⟩ : ∃ st, S1.buf.length = st + 1 := ⟨S1.buf.length - 1, by have := List.length_pos_iff.2 hbn; omega⟩
    have HS2 : Hid (str S = (R.1, saved st R)) := Lib.hid (by rw [HS.out, hst, Nat.add_sub_cancel])
    obtain ⟨⟨ca, cn⟩, ht⟩ := h1.buf1 hbn
    rw [hst] at ht
    simp only at ht
    have HST := Lib.hid hst
    clear hst HS hbn
    have hstb : st ≤ 4294967296 := by have := h1.tot; have := HST.out; omega
    go_wp2_with fail
    clear ht
    go_loopg [] (S1.m2) (fun k wr => LitRel E w0 p l raw R ls st 8001 k wr)
    case atStart => exact ⟨S1, h1, HR.out, hn2, by have := HST.out; omega, hgs, Nat.le_refl _⟩
    case round =>
      obtain ⟨S2, h2, hrel2, hnn, hstl2, hgd2, hk⟩ := hrel
      have HREL := Lib.hid hrel2
      clear hrel2 h1 HR hgs hn2
      obtain ⟨hs3, c4, c2, f2⟩ := h2.sees
      rcases hs3 with ⟨he, e3⟩ | ⟨he, b3, e3⟩
      · have hle := nx_le false S2
        go_wp2_with fail
        refine (lift h2 (fun O h => nextByte_any false h (by omega))).mono ?_; rintro e w3 ⟨rfl, h3⟩
        have hns : (nx false S2).1.nerr ≤ 8001 := by rw [nx_same he]; exact hnn
        have hstl : st < (nx false S2).1.buf.length := by have := hle.buf; omega
        clear hle c4 c2 f2 e3 h2
        by_cases h9 : (nx false S2).2 = 96
        · have e9 : (((nx false S2).2.toNat : Int) == 96) = true := byte_eq (c := 96) h9
          have hbne := nx_good false hgd2 (by rw [h9]; decide)
          have HR2 : Hid (R = ((nx false S2).1, true)) := Lib.hid (HREL.out.symm.trans (raw_hit he h9))
          clear h9 he HREL hgd2
          generalize (nx false S2).2 = y2 at *
          generalize (nx false S2).1 = S3 at *
          go_wp2_with fail
          obtain ⟨O, LV, hr, hl⟩ := h3
          obtain ⟨g, cap, c1, hlc, hcm, hbg, hbt⟩ := hr.bufAt hbne
          have HQ := Lib.hid (save_facts hr hl c1 hbt hstl hlc)
          clear c1 hbt
          refine save_raw hr hl HQ.out hstl hlc hcm hls rfl rfl rfl rfl rfl ?_
          intro b w4 hbs hbd hbo h4
          clear hr hl HQ hlc hcm hbg hbne hstl
          obtain ⟨tm, df⟩ := b
          obtain rfl : df = [] := hbd
          obtain ⟨x, hx⟩ : ∃ x : Nat → Value, ∀ s ∈ [29, 30, 31, 32, 33, 34, 35, 36, 37, 38, 39, 40, 41, 42], tm[s]? = some (x s) := ⟨fun s => (tm[s]?).getD undef, fun s hs => by
            have : s < tm.size := by
              have h96 : tm.size = 96 := hbs
              rw [h96]; exact of_decide_eq_true (List.all_eq_true.1 (show ([29, 30, 31, 32, 33, 34, 35, 36, 37, 38, 39, 40, 41, 42].all fun s => decide (s < 96)) = true by decide) s hs)
            show tm[s]? = some ((tm[s]?).getD undef)
            rw [Array.getElem?_eq_getElem this]; rfl⟩
          have e := setsA_eq (u := _) hbs hx (fun j hj => hbo j (out14 29 j hj))
          simp only [setsA, List.map_cons, List.map_nil, List.foldl_cons, List.foldl_nil, List.setIfInBounds_toArray, List.set_cons_zero, List.set_cons_succ] at e
          clear hx hbo hbs
          subst e
          go_wp2_with fail
          go_end0
          rw [HS2.out, HR2.out]
          exact ⟨rfl, h4⟩
        · have e9 : (((nx false S2).2.toNat : Int) == 96) = false := byte_ne (c := 96) h9
          have HL : Hid (raw (estep false (nx false S2).1) = R) := Lib.hid ((raw_more he h9).symm.trans HREL.out)
          have HLT := Lib.hid (estep_lt (sk := false) (b := false) he)
          have hgn := nx_goodS false S2
          clear h9 he HREL hgd2
          obtain ⟨_, c4, _, _⟩ := h3.sees
          generalize (nx false S2).2 = y2 at *
          generalize (nx false S2).1 = S3 at *
          cases hf : S3.eof
          · have HE : Hid (estep false S3 = S3) := Lib.hid (by unfold estep; rw [hf]; simp)
            rw [hf] at c4
            clear hf
            go_wp2_with fail
            rw [HE.out] at HL HLT
            go_roundg (gk - 1)
            case rel => exact ⟨S3, h3, HL.out, hns, hstl, hgn, by have := HLT.out; omega⟩
            all_goals (have := HLT.out; omega)
          · have HE : Hid (estep false S3 = syn S3) := Lib.hid (by unfold estep; rw [hf]; simp)
            rw [hf] at c4
            clear hf
            go_wp2_with fail
            refine (lift h3 (fun O h => syntaxError_any h)).mono ?_; rintro e w4 ⟨rfl, h4⟩
            go_wp2_with fail
            rw [HE.out] at HL HLT
            go_roundg (gk - 1)
            case rel => exact ⟨syn S3, h4, HL.out, by rw [syn_nerr]; exact hns, by have := (syn_le S3).buf; omega, syn_good hgn, by have := HLT.out; omega⟩
            all_goals (have := HLT.out; omega)
      · have HR2 : Hid (R = (S2, false)) := Lib.hid (HREL.out.symm.trans (raw_off he))
        clear he HREL
        go_wp2_with fail
        go_end0
        rw [HS2.out, HR2.out]
        unfold saved
        simp only [Bool.false_eq_true, if_false, List.map_nil, List.append_nil]
        exact ⟨trivial, h2⟩
  · have e96 : (((nx true S).2.toNat : Int) == 96) = false := byte_ne (c := 96) h96
    by_cases h34 : (nx true S).2 = 34
    · have e34 : (((nx true S).2.toNat : Int) == 34) = true := byte_eq (c := 34) h34
      have hbn := hgd (by rw [h34]; decide)
      obtain ⟨R, HR⟩ : ∃ R, Hid (quo (nx true S).1 = R) := ⟨_, Lib.hid rfl⟩
      have HS : Hid (str S = (R.1, saved ((nx true S).1.buf.length - 1) R)) := Lib.hid (by unfold str; rw [if_neg h96, if_pos h34, HR.out])
      have hgs := nx_goodS true S
      clear h34 hgd hg hn
      generalize (nx true S).2 = y at *
      generalize (nx true S).1 = S1 at *
      obtain ⟨st, hst⟩ : ∃ st, S1.buf.length = st + 1 := ⟨S1.buf.length - 1, by have := List.length_pos_iff.2 hbn; omega⟩
      have HS2 : Hid (str S = (R.1, saved st R)) := Lib.hid (by rw [HS.out, hst, Nat.add_sub_cancel])
      obtain ⟨⟨ca, cn⟩, ht⟩ := h1.buf1 hbn
      rw [hst] at ht
      simp only at ht
      have HST := Lib.hid hst
      clear hst HS hbn
      have hstb : st ≤ 4294967296 := by have := h1.tot; have := HST.out; omega
      go_wp2_with fail
      clear ht
      go_loopg [] (S1.m2) (fun k wr => QuoRel E w0 p l quo R ls st 8001 k wr)
      case atStart => exact ⟨S1, h1, HR.out, ⟨by omega, fun _ => hn2⟩, by have := HST.out; omega, hgs, Nat.le_refl _⟩
      case round =>
        obtain ⟨S2, h2, hrel2, hnn, hstl2, hgd2, hk⟩ := hrel
        have HREL := Lib.hid hrel2
        clear hrel2 h1 HR hgs hn2
        obtain ⟨hs3, c4, c2, f2⟩ := h2.sees
        rcases hs3 with ⟨he, e3⟩ | ⟨he, b3, e3⟩
        · have hle := nx_le false S2
          go_wp2_with fail
          refine (lift h2 (fun O h => nextByte_any false h (by have := hnn.1; omega))).mono ?_; rintro e w3 ⟨rfl, h3⟩
          have hns : (nx false S2).1.nerr ≤ 8001 := by rw [nx_same he]; exact hnn.2 he
          have hstl : st < (nx false S2).1.buf.length := by have := hle.buf; omega
          clear hle c4 c2 f2 e3 h2
          by_cases h9 : (nx false S2).2 = 34
          · have e9 : (((nx false S2).2.toNat : Int) == 34) = true := byte_eq (c := 34) h9
            have hbne := nx_good false hgd2 (by rw [h9]; decide)
            have HR2 : Hid (R = ((nx false S2).1, true)) := Lib.hid (HREL.out.symm.trans (quo_hit he h9))
            clear h9 he HREL hgd2
            generalize (nx false S2).2 = y2 at *
            generalize (nx false S2).1 = S3 at *
            go_wp2_with fail
            obtain ⟨O, LV, hr, hl⟩ := h3
            obtain ⟨g, cap, c1, hlc, hcm, hbg, hbt⟩ := hr.bufAt hbne
            have HQ := Lib.hid (save_facts hr hl c1 hbt hstl hlc)
            clear c1 hbt
            refine save_quo hr hl HQ.out hstl hlc hcm hls rfl rfl rfl rfl rfl ?_
            intro b w4 hbs hbd hbo h4
            clear hr hl HQ hlc hcm hbg hbne hstl
            obtain ⟨tm, df⟩ := b
            obtain rfl : df = [] := hbd
            obtain ⟨x, hx⟩ : ∃ x : Nat → Value, ∀ s ∈ [68, 69, 70, 71, 72, 73, 74, 75, 76, 77, 78, 79, 80, 81], tm[s]? = some (x s) := ⟨fun s => (tm[s]?).getD undef, fun s hs => by
              have : s < tm.size := by
                have h96 : tm.size = 96 := hbs
                rw [h96]; exact of_decide_eq_true (List.all_eq_true.1 (show ([68, 69, 70, 71, 72, 73, 74, 75, 76, 77, 78, 79, 80, 81].all fun s => decide (s < 96)) = true by decide) s hs)
              show tm[s]? = some ((tm[s]?).getD undef)
              rw [Array.getElem?_eq_getElem this]; rfl⟩
            have e := setsA_eq (u := _) hbs hx (fun j hj => hbo j (out14 68 j hj))
            simp only [setsA, List.map_cons, List.map_nil, List.foldl_cons, List.foldl_nil, List.setIfInBounds_toArray, List.set_cons_zero, List.set_cons_succ] at e
            clear hx hbo hbs
            subst e
            go_wp2_with fail
            go_end0
            rw [HS2.out, HR2.out]
            exact ⟨rfl, h4⟩
          · have e9 : (((nx false S2).2.toNat : Int) == 34) = false := byte_ne (c := 34) h9
            have HL : Hid (quo (after (nx false S2).2 (estep ((nx false S2).2 == 10) (nx false S2).1)) = R) := Lib.hid ((quo_more he h9).symm.trans HREL.out)
            have HLT : Hid ((after (nx false S2).2 (estep ((nx false S2).2 == 10) (nx false S2).1)).m2 < S2.m2) := Lib.hid (Nat.lt_of_le_of_lt (after_m2 _ _) (estep_lt he))
            have hgn := nx_goodS false S2
            clear h9 he HREL hgd2 hnn
            obtain ⟨_, c4, _, _⟩ := h3.sees
            generalize (nx false S2).2 = y2 at *
            generalize (nx false S2).1 = S3 at *
            have HNB : Hid (NB 1 (after y2 (estep (y2 == 10) S3)) S3) := Lib.hid (by simpa using (estep_nb (y2 == 10) S3).trans (after_nb y2 _) (after_le _ _))
            have HLE : Hid (Le (after y2 (estep (y2 == 10) S3)) S3) := Lib.hid ((after_le _ _).trans (estep_le _ _))
            have HGD : Hid (Good (after y2 (estep (y2 == 10) S3))) := Lib.hid (after_good (estep_good hgn))
            cases hf : S3.eof
            · rw [hf] at c4
              by_cases h10 : y2 = 10
              · subst h10
                have HE : Hid (after 10 (estep ((10 : UInt8) == 10) S3) = syn S3) := Lib.hid (by unfold after estep; simp)
                clear hf
                go_wp2_with fail
                refine (lift h3 (fun O h => syntaxError_any h)).mono ?_; rintro e w4 ⟨rfl, h4⟩
                go_wp2_with fail
                rw [HE.out] at HL HLT HNB HLE HGD
                go_roundg (gk - 1)
                case rel => exact ⟨syn S3, h4, HL.out, ⟨by have := HNB.out.le; omega, fun e => by rw [HNB.out.same e]; exact hns⟩, by have := HLE.out.buf; omega, HGD.out, by have := HLT.out; omega⟩
                all_goals (have := HLT.out; omega)
              · have e10 : ((y2.toNat : Int) == 10) = false := byte_ne (c := 10) h10
                have HE0 : Hid (estep (y2 == 10) S3 = S3) := Lib.hid (by unfold estep; rw [hf]; simp [h10])
                rw [HE0.out] at HL HLT HNB HLE HGD
                clear hf h10 HE0
                by_cases h92 : y2 = 92
                · subst h92
                  have HE : Hid (after 92 S3 = (nx false S3).1) := Lib.hid (by unfold after; simp)
                  rw [HE.out] at HL HLT HNB HLE HGD
                  go_wp2_with fail
                  refine (lift h3 (fun O h => nextByte_any false h (by omega))).mono ?_; rintro e w4 ⟨rfl, h4⟩
                  go_wp2_with fail
                  go_roundg (gk - 1)
                  case rel => exact ⟨(nx false S3).1, h4, HL.out, ⟨by have := HNB.out.le; omega, fun e => by rw [HNB.out.same e]; exact hns⟩, by have := HLE.out.buf; omega, HGD.out, by have := HLT.out; omega⟩
                  all_goals (have := HLT.out; omega)
                · have e92 : ((y2.toNat : Int) == 92) = false := byte_ne (c := 92) h92
                  have HE : Hid (after y2 S3 = S3) := Lib.hid (by unfold after; rw [if_neg h92])
                  rw [HE.out] at HL HLT HNB HLE HGD
                  clear h92
                  go_wp2_with fail
                  go_roundg (gk - 1)
                  case rel => exact ⟨S3, h3, HL.out, ⟨by omega, fun e => hns⟩, by have := HLE.out.buf; omega, HGD.out, by have := HLT.out; omega⟩
                  all_goals (have := HLT.out; omega)
            · rw [hf] at c4
              have HE0 : Hid (estep (y2 == 10) S3 = syn S3) := Lib.hid (by unfold estep; rw [hf]; simp)
              rw [HE0.out] at HL HLT HNB HLE HGD
              clear hf HE0
              by_cases h92 : y2 = 92
              · subst h92
                have HE : Hid (after 92 (syn S3) = (nx false (syn S3)).1) := Lib.hid (by unfold after; simp)
                rw [HE.out] at HL HLT HNB HLE HGD
                go_wp2_with fail
                refine (lift h3 (fun O h => syntaxError_any h)).mono ?_; rintro e w4 ⟨rfl, h4⟩
                go_wp2_with fail
                refine (lift h4 (fun O h => nextByte_any false h (by rw [syn_nerr]; omega))).mono ?_; rintro e w5 ⟨rfl, h5⟩
                go_wp2_with fail
                go_roundg (gk - 1)
                case rel => exact ⟨(nx false (syn S3)).1, h5, HL.out, ⟨by have := HNB.out.le; omega, fun e => by rw [HNB.out.same e]; exact hns⟩, by have := HLE.out.buf; omega, HGD.out, by have := HLT.out; omega⟩
                all_goals (have := HLT.out; omega)
              · have e92 : ((y2.toNat : Int) == 92) = false := byte_ne (c := 92) h92
                have HE : Hid (after y2 (syn S3) = syn S3) := Lib.hid (by unfold after; rw [if_neg h92])
                rw [HE.out] at HL HLT HNB HLE HGD
                clear h92
                go_wp2_with fail
                refine (lift h3 (fun O h => syntaxError_any h)).mono ?_; rintro e w4 ⟨rfl, h4⟩
                go_wp2_with fail
                go_roundg (gk - 1)
                case rel => exact ⟨syn S3, h4, HL.out, ⟨by have := HNB.out.le; omega, fun e => by rw [HNB.out.same e]; exact hns⟩, by have := HLE.out.buf; omega, HGD.out, by have := HLT.out; omega⟩
                all_goals (have := HLT.out; omega)
        · have HR2 : Hid (R = (S2, false)) := Lib.hid (HREL.out.symm.trans (quo_off he))
          clear he HREL
          go_wp2_with fail
          go_end0
          rw [HS2.out, HR2.out]
          unfold saved
          simp only [Bool.false_eq_true, if_false, List.map_nil, List.append_nil]
          exact ⟨trivial, h2⟩
    · have e34 : (((nx true S).2.toNat : Int) == 34) = false := byte_ne (c := 34) h34
      have HS : Hid (str S = (syn (nx true S).1, [])) := Lib.hid (by unfold str; rw [if_neg h96, if_neg h34])
      clear h96 h34 hgd
      go_wp2_with fail
      refine (lift h1 (fun O h => syntaxError_any h)).mono ?_; rintro e w2 ⟨rfl, h2⟩
      go_wp2_with fail
      go_end0
      rw [HS.out, List.map_nil, List.append_nil]
      exact ⟨rfl, h2⟩

theorem pk_nz {sk : Bool} {S : RS} (h : Good S) : Good (pk sk S).1 := by
  by_cases he : S.err = .no
  · have hg := pk_good sk h
    intro hp
    have e : (pk sk S).1.peek = (pk sk S).2 := by rw [pk_no he]
    exact hg (by rw [← e]; exact hp)
  · rw [pk_err he]; exact h
theorem kwl_good : ∀ (l : List UInt8) (S : RS), Good S → Good (kwl l S).1
  | [], S, h => h
  | k :: t, S, h => by
    rw [kwl]
    split
    · exact kwl_good t _ (nx_goodS _ _)
    · exact syn_good (nx_goodS _ _)
theorem kw_good (l : List UInt8) {S : RS} (h : Good S) : Good (kw l S) := by
  have h1 := kwl_good l _ (pk_nz (sk := true) h)
  unfold kw kwEnd
  split
  · split
    · exact syn_good (pk_nz h1)
    · exact pk_nz h1
  · exact h1
theorem idl_good (S : RS) : Good S → Good (idl S) := by
  induction S using idl.induct with
  | case1 S h ih => intro _; rw [idl, dif_pos h]; exact ih (nx_goodS _ _)
  | case2 S h => intro hg; rw [idl, dif_neg h]; exact pk_nz hg
theorem ident_good {S : RS} (h : Good S) : Good (ident S) := by
  unfold ident
  split
  · exact idl_good _ (pk_nz h)
  · exact syn_good (pk_nz h)
theorem raw_good (S : RS) : Good S → Good (raw S).1 := by
  induction S using raw.induct with
  | case1 S h h2 => intro _; rw [raw, dif_pos h, if_pos h2]; exact nx_goodS _ _
  | case2 S h h2 ih => intro _; rw [raw, dif_pos h, if_neg h2]; exact ih (estep_good (nx_goodS _ _))
  | case3 S h => intro hg; rw [raw, dif_neg h]; exact hg
theorem quo_good (S : RS) : Good S → Good (quo S).1 := by
  induction S using quo.induct with
  | case1 S h h2 => intro _; rw [quo, dif_pos h, if_pos h2]; exact nx_goodS _ _
  | case2 S h h2 ih => intro _; rw [quo, dif_pos h, if_neg h2]; exact ih (after_good (estep_good (nx_goodS _ _)))
  | case3 S h => intro hg; rw [quo, dif_neg h]; exact hg
theorem str_good (S : RS) : Good (str S).1 := by
  unfold str
  split
  · exact raw_good _ (nx_goodS _ _)
  · split
    · exact quo_good _ (nx_goodS _ _)
    · exact syn_good (nx_goodS _ _)
theorem name_good {S : RS} (h : Good S) : Good (name S) := by
  unfold name
  split
  · exact fun e => absurd rfl e
  · split
    · exact ident_good (pk_nz h)
    · exact pk_nz h
theorem imp_good (S : RS) : Good (imp S).1 := str_good _

set_option maxHeartbeats 1000000 in
theorem readImport_any {E : EB} {w0 : World} {p l : Nat} {S : RS} {ls : List ByteArray} {w : World} (h : RdL E w0 p l S ls w) (hg : Good S) (hn : S.nerr ≤ 7000) (hls : ls.length ≤ 4294967296) :
    Calls Tryd.prog 43 #[.pointer (some ⟨p, 0, none⟩), .pointer (some ⟨l, 0, none⟩)] w fun e w' => e = .returned (.tuple #[]) ∧ RdL E w0 p l (imp S).1 (ls ++ (imp S).2.map (fun b => ⟨b.toArray⟩)) w' := by
  have HI : Hid (imp S = str (name S)) := Lib.hid rfl
  have hgn := name_good hg
  have hnn := (name_nb S).le
  have hn1 := (pk_nb true S).le
  go_enter Tryd.func43, Tryd.ntmps43
  go_wp2_with fail
  refine (lift h (fun O h => peekByte_any true h (by omega))).mono ?_; rintro e w1 ⟨rfl, h1⟩
  clear h
  obtain ⟨_, _, c2, f2⟩ := h1.sees
  by_cases h46 : (pk true S).2 = 46
  · have e46 : (((pk true S).2.toNat : Int) == 46) = true := byte_eq (c := 46) h46
    have HN : Hid (name S = { (pk true S).1 with peek := 0 }) := Lib.hid (by unfold name; rw [if_pos h46])
    have h2 := h1.setPeek 0
    clear h46
    go_wp2_with fail
    rw [HN.out] at hgn hnn HI
    refine (readString_any h2 hgn (by omega) hls).mono ?_; rintro e w3 ⟨rfl, h3⟩
    go_wp2_with fail
    go_end0
    rw [HI.out]
    exact ⟨rfl, h3⟩
  · have e46 : (((pk true S).2.toNat : Int) == 46) = false := byte_ne (c := 46) h46
    cases hid : isId (pk true S).2
    · have HN : Hid (name S = (pk true S).1) := Lib.hid (by unfold name; rw [if_neg h46, hid]; simp)
      have HID := Lib.hid hid
      clear h46 hid
      go_wp2_with fail
      refine (isIdent_any (pk true S).2 _ rfl _).mono ?_; rintro e w2 ⟨rfl, rfl⟩
      rw [HID.out]
      go_wp2_with fail
      rw [HN.out] at hgn hnn HI
      refine (readString_any h1 hgn (by omega) hls).mono ?_; rintro e w3 ⟨rfl, h3⟩
      go_wp2_with fail
      go_end0
      rw [HI.out]
      exact ⟨rfl, h3⟩
    · have HN : Hid (name S = ident (pk true S).1) := Lib.hid (by unfold name; rw [if_neg h46, hid]; simp)
      have HID := Lib.hid hid
      clear h46 hid
      go_wp2_with fail
      refine (isIdent_any (pk true S).2 _ rfl _).mono ?_; rintro e w2 ⟨rfl, rfl⟩
      rw [HID.out]
      go_wp2_with fail
      refine (lift h1 (fun O h => readIdent_any h (by omega))).mono ?_; rintro e w2 ⟨rfl, h2⟩
      go_wp2_with fail
      rw [HN.out] at hgn hnn HI
      refine (readString_any h2 hgn (by omega) hls).mono ?_; rintro e w3 ⟨rfl, h3⟩
      go_wp2_with fail
      go_end0
      rw [HI.out]
      exact ⟨rfl, h3⟩
end Go.Proofs.YtgplcbobomainaaDoor.GI
