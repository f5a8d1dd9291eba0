/-
  goodOSArchFile.
-/
import Derived.Test.YtbociefjibgklaaDoorNameL
import Derived.Test.YtbociefjibgklaaDoorSetsA
namespace Go.Proofs.YtbociefjibgklaaDoor
open Go.RowKit
set_option linter.unusedVariables false
set_option linter.unusedSimpArgs false

def BL (l : List UInt8) : ByteArray := ⟨l.toArray⟩
def fitsN (S : Stg) (name : List UInt8) : Bool := (implied (wordsOf name)).all fun t => met unixKeys S (BL t)

theorem known_tag {t : ByteArray} (h : (osKeys.contains t.data.toList || arKeys.contains t.data.toList) = true) : (t.toList == [98, 111, 114, 105, 110, 103, 99, 114, 121, 112, 116, 111]) = false := by
  have hall : ((osKeys ++ arKeys).all fun k => !(k == [98, 111, 114, 105, 110, 103, 99, 114, 121, 112, 116, 111])) = true := by decide +kernel
  have hm : t.data.toList ∈ osKeys ++ arKeys := by
    rcases Bool.or_eq_true _ _ ▸ h with h | h
    · exact List.mem_append_left _ (List.contains_iff_mem.1 h)
    · exact List.mem_append_right _ (List.contains_iff_mem.1 h)
  have := List.all_eq_true.1 hall _ hm
  rw [Lib.toList_data]
  simpa using this

theorem drop_no {L : List (List UInt8)} {ss : List ByteArray} {m : Nat} {y : ByteArray} (hp : (ss.map fun t => t.data.toList) = L) (hl : ss.length = m + 1) (hy : ss[m]? = some y) (h : (y.toList == [116, 101, 115, 116]) = false) :
    (ss.map fun t => t.data.toList) = dropT L := by
  unfold dropT
  rw [← hp, List.length_map, hl, Nat.add_sub_cancel]
  rw [if_neg]
  rintro ⟨h1, h2⟩
  rw [List.getD_eq_getElem?_getD, List.getElem?_map, hy] at h2
  have h2' : y.data.toList = testL := h2
  rw [Lib.toList_data, h2'] at h
  exact absurd h (by decide)
theorem drop_yes {L : List (List UInt8)} {ss : List ByteArray} {m : Nat} {y : ByteArray} (hp : (ss.map fun t => t.data.toList) = L) (hl : ss.length = m + 1) (hy : ss[m]? = some y) (h0 : 0 < m) (h : (y.toList == [116, 101, 115, 116]) = true) :
    ((ss.take m).map fun t => t.data.toList) = dropT L := by
  unfold dropT
  rw [← hp, List.length_map, hl, Nat.add_sub_cancel]
  rw [if_pos, List.map_take]
  refine ⟨by omega, ?_⟩
  rw [List.getD_eq_getElem?_getD, List.getElem?_map, hy]
  show y.data.toList = testL
  rw [← Lib.toList_data]
  exact beq_iff_eq.1 h

theorem BL_data (t : ByteArray) : BL t.data.toList = t := by cases t; rfl
theorem good_two {ws : List (List UInt8)} {k : Nat} {v z : List UInt8} (hn : ws.length = k + 1 + 1) (hv : ws.getD k [] = v) (hz : ws.getD (k + 1) [] = z) (h1 : osKeys.contains v = true) (h2 : arKeys.contains z = true) : good ws = [v, z] := by
  unfold good
  simp only [hn]
  rw [show k + 1 + 1 - 1 = k + 1 by omega, show k + 1 + 1 - 2 = k by omega, hv, hz, h1, h2, if_pos (by simp)]
theorem good_one {ws : List (List UInt8)} {m : Nat} {z : List UInt8} (hn : ws.length = m + 1) (hz : ws.getD m [] = z) (h : (decide (2 ≤ m + 1) && osKeys.contains (ws.getD (m - 1) []) && arKeys.contains z) = false) : good ws = if (osKeys.contains z || arKeys.contains z) = true then [z] else [] := by
  unfold good
  simp only [hn]
  rw [show m + 1 - 1 = m by omega, show m + 1 - 2 = m - 1 by omega, hz, if_neg (by rw [h]; simp)]
  rw [show decide (1 ≤ m + 1) = true by simp, Bool.true_and]
theorem fits_two {S : Stg} {name : List UInt8} {ws : List (List UInt8)} {v z : ByteArray} (h : good ws = implied (wordsOf name)) (hg : good ws = [v.data.toList, z.data.toList]) : fitsN S name = (met unixKeys S v && met unixKeys S z) := by
  unfold fitsN
  rw [← h, hg]
  simp only [List.all_cons, List.all_nil, BL_data, Bool.and_true]
theorem fits_one {S : Stg} {name : List UInt8} {ws : List (List UInt8)} {z : ByteArray} (h : good ws = implied (wordsOf name)) (hg : good ws = if (osKeys.contains z.data.toList || arKeys.contains z.data.toList) = true then [z.data.toList] else []) : fitsN S name = ((osKeys.contains z.data.toList || arKeys.contains z.data.toList) == false || met unixKeys S z) := by
  unfold fitsN
  rw [← h, hg]
  cases hk : (osKeys.contains z.data.toList || arKeys.contains z.data.toList)
  · rfl
  · rw [if_pos rfl]; simp only [List.all_cons, List.all_nil, BL_data, Bool.and_true]; rfl

def us : ByteArray := ⟨#[95]⟩
def dot : ByteArray := ⟨#[46]⟩

def FitPost (S : Stg) (s : ByteArray) (w : World) (e : Ending) (w' : World) : Prop := e = .returned (.bool (fitsN S s.data.toList)) ∧ Below w.heap.size w w'

set_option maxRecDepth 100000 in
set_option maxHeartbeats 8000000 in
theorem goodOS_any (S : Stg) (s : ByteArray) (q : Nat) (w : World) (hs : s.size ≤ 70368744177664 / 16) (hq : CtxAt S w q) (hm : AllIs w)
    (ho : S.os.size ≤ maxLen) (l1 : S.s1.length ≤ maxLen) (l2 : S.s2.length ≤ maxLen) (l3 : S.s3.length ≤ maxLen) :
    Calls Tryd.prog 31 #[.pointer (some ⟨q, 0, none⟩), .string s, .map none] w (FitPost S s w) := by
  have hmn : ∀ w : World, (binOp .neq 44 (.map none) (.map none)).run Tryd.prog w = .ok (.bool false) w := fun w => by kernel_rfl
  have HMN := Lib.hid hmn
  clear hmn
  go_enter Tryd.func31, Tryd.ntmps31
  go_wp2_with fail
  refine (zzCut_any s dot hs (by decide) (by decide) _).mono ?_; rintro e w2 ⟨hd, a, b, f, rfl, ha⟩
  have hb := hd.below
  have hm2 := hm.below hb
  have hq2 := hq.below hb
  have hstem : a.data.toList = stem s.data.toList := by
    rw [ha]
    unfold stem
    show (splS [46] s.data.toList).headD [] = _
    rw [splS_spl 46 _ _ (Nat.le_refl _)]
  have has : a.size ≤ s.size := by
    have h1 : a.data.toList ∈ spl 46 s.data.toList := by
      rw [hstem]; unfold stem
      have := spl_ne 46 s.data.toList
      cases h : spl 46 s.data.toList with
      | nil => exact absurd h this
      | cons x r => simp
    have := spl_size _ h1
    rw [size_list a, size_list s]; exact this
  have HS := Lib.hid hstem
  clear ha hd hm hq hstem
  go_wp2_with fail
  refine (zzIndexG_any a us (by omega) (by decide) _).mono ?_; rintro e w' ⟨rfl, rfl⟩
  cases hf : fi us.data.toList a.data.toList with
  | none =>
    have HF : Hid (fidx a us = -1) := Lib.hid <| by unfold fidx; rw [hf]
    have HI := Lib.hid (none_implied (name := s.data.toList) (by rw [← HS.out]; exact hf))
    clear hf
    rw [HF.out]
    go_wp2_with fail
    go_ret
    exact ⟨ret_bool (by unfold fitsN; rw [HI.out]; rfl), hb⟩
  | some i =>
    have hbd := (fi_bd hf).1
    have HF : Hid (fidx a us = (i : Int)) := Lib.hid <| by unfold fidx; rw [hf]
    have HG := Lib.hid (own_good (name := s.data.toList) (i := i) (by rw [← HS.out]; exact hf))
    have hi : i ≤ a.size := by rw [size_list a]; omega
    have HFI := Lib.hid hf
    clear hf hbd
    rw [HF.out]
    go_wp2_with fail
    have hsub : (a.extract i a.size).size ≤ 70368744177664 / 16 := by rw [ByteArray.size_extract]; omega
    refine (zzSplitG_any (a.extract i a.size) us hsub (by decide) (by decide) _).mono ?_; rintro e w3 ⟨g2, cap2, ss2, rfl, hp2, how2, hbl2⟩
    have hex : (a.extract i a.size).data.toList = (stem s.data.toList).drop i := by
      rw [Lib.extract_data, HS.out]
      exact List.take_of_length_le (by rw [List.length_drop, ← HS.out, size_list a]; exact Nat.le_refl _)
    have HP : Hid (ss2.map (fun t => t.data.toList) = splS [95] ((stem s.data.toList).drop i)) := Lib.hid <| by rw [hp2, hex]; rfl
    have hfi : fi [95] (stem s.data.toList) = some i := by rw [← HS.out]; exact HFI.out
    have how := own_words hfi
    have hlen : ss2.length = (spl 95 ((stem s.data.toList).drop (i + 1))).length + 1 := by
      have e := congrArg List.length HP.out
      rw [List.length_map, how.1] at e
      simpa using e
    have hTl := List.length_pos_iff.2 (spl_ne 95 ((stem s.data.toList).drop (i + 1)))
    have hTu := spl_len 95 ((stem s.data.toList).drop (i + 1))
    have hTd : ((stem s.data.toList).drop (i + 1)).length ≤ s.size := by rw [List.length_drop, ← HS.out, ← size_list a]; omega
    obtain ⟨m, hm, hm0, hmu⟩ : ∃ m, ss2.length = m + 1 ∧ 0 < m ∧ m ≤ 4398046511105 := ⟨_, hlen, hTl, by omega⟩
    have hsz2 : ∀ y ∈ ss2, y.size ≤ maxLen := by
      intro y hy
      have hmem : y.data.toList ∈ splS [95] ((stem s.data.toList).drop i) := by rw [← HP.out]; exact List.mem_map.2 ⟨y, hy, rfl⟩
      rw [splS_spl 95 _ _ (Nat.le_refl _)] at hmem
      have := spl_size _ hmem
      rw [← size_list, List.length_drop, ← HS.out, ← size_list a] at this
      unfold maxLen; omega
    have hst2 := own_strs how2 hsz2
    obtain ⟨g', cap', hv, hcap, hcm, _, hg⟩ := own_form how2 (by omega)
    simp only [Value.slice.injEq, Option.some.injEq, Addr.mk.injEq] at hv
    obtain ⟨⟨rfl, -, -⟩, -, rfl⟩ := hv
    unfold maxLen at hcm
    have hbel : Below w.heap.size w w3 := hb.trans (hbl2.mono hb.size)
    have hm3 := hm2.below hbl2
    have hq3 := hq2.below hbl2
    clear how2 hp2 hlen hTl hTu hTd how hfi hex hbl2 hm2 hq2 hb
    obtain ⟨y, hy, hcl⟩ : ∃ y, ss2[m]? = some y ∧ w3.cell? ⟨g2, m, none⟩ = some (.string y) := by
      obtain ⟨_, _, hA, _, hc⟩ := hst2.2 (by omega)
      injection hA with hA
      injection hA with hA1 hA2
      subst hA1 hA2
      exact ⟨ss2[m]'(by omega), List.getElem?_eq_getElem _, by simpa only [Nat.zero_add] using hc m (by omega)⟩
    have HM := Lib.hid hm
    have HY := Lib.hid hy
    have hmc : m + 1 ≤ cap2 := by omega
    rw [hm]
    clear hm hy hcap
    have word (ws : List ByteArray) (j : Nat) (hstw : Strs w3 (some ⟨g2, 0, none⟩) ws) (hl : ws.length = j + 1) (k : Nat) (hk : k ≤ j) : ∃ z, ws[k]? = some z ∧ w3.cell? ⟨g2, k, none⟩ = some (.string z) := by
      obtain ⟨_, _, hA, _, hc⟩ := hstw.2 (by omega)
      injection hA with hA
      injection hA with hA1 hA2
      subst hA1 hA2
      exact ⟨ws[k]'(by omega), List.getElem?_eq_getElem _, by simpa only [Nat.zero_add] using hc k (by omega)⟩
    have HWORD := Lib.hid word
    clear word
    cases ht : (y.toList == [116, 101, 115, 116])
    · have HW0 := Lib.hid (drop_no HP.out HM.out HY.out ht)
      go_upto_region 11 with fail
      clear hcl
      obtain ⟨ws, hstw, HL, HW⟩ : ∃ ws : List ByteArray, Strs w3 (some ⟨g2, 0, none⟩) ws ∧ Hid (ws.length = m + 1) ∧ Hid (ws.map (fun t => t.data.toList) = ownWords s.data.toList i) := ⟨ss2, hst2, HM, HW0⟩
      have HWD := Lib.hid (HWORD.out ws m hstw HL.out)
      obtain ⟨z, hz, hcz⟩ := HWD.out m (Nat.le_refl _)
      have HZ : Hid ((ownWords s.data.toList i).getD m [] = z.data.toList) := Lib.hid <| by rw [← HW.out, List.getD_eq_getElem?_getD, List.getElem?_map, hz]; rfl
      have HN : Hid ((ownWords s.data.toList i).length = m + 1) := Lib.hid <| by rw [← HW.out, List.length_map, HL.out]
      have zl : z.size ≤ maxLen := hstw.1 z (List.mem_of_getElem? hz)
      clear hz
      have HA := Lib.hid (hm3.ar)
      have HO := Lib.hid (hm3.os)
      obtain ⟨bo, co, ho1, hlo⟩ := hm3.os
      obtain ⟨ba, ca, ha1, hla⟩ := hm3.ar
      have HLO := Lib.hid hlo
      have HLA := Lib.hid hla
      clear hlo hla
      have HOz := Lib.hid (fun n : Nat => HLO.out (w3.drewN n) (below_drewN (Below.refl _ _) n) z zl)
      have HAz := Lib.hid (fun n : Nat => HLA.out (w3.drewN n) (below_drewN (Below.refl _ _) n) z zl)
      go_cut [63] from 44 (fun c wx => c = .bool (decide (2 ≤ m + 1) && osKeys.contains ((ownWords s.data.toList i).getD (m - 1) []) && arKeys.contains z.data.toList) ∧ Drawn w3 wx)
      case first =>
        rcases Nat.eq_zero_or_pos m with h0 | hj
        · omega
        · skip
          obtain ⟨k, rfl⟩ : ∃ k, m = k + 1 := ⟨m - 1, by omega⟩
          obtain ⟨v, hv, hcv⟩ := HWD.out k (by omega)
          have HV : Hid ((ownWords s.data.toList i).getD k [] = v.data.toList) := Lib.hid <| by rw [← HW.out, List.getD_eq_getElem?_getD, List.getElem?_map, hv]; rfl
          have vl : v.size ≤ maxLen := hstw.1 v (List.mem_of_getElem? hv)
          clear hv
          have hd : decide ((2 : Int) ≤ (k : Int) + 1 + 1) = true := by rw [decide_eq_true_eq]; omega
          have HOv := Lib.hid (fun n : Nat => HLO.out (w3.drewN n) (below_drewN (Below.refl _ _) n) v vl)
          cases hos : osKeys.contains v.data.toList
          · have HS1 := Lib.hid hos
            have hr := HOv.out
            rw [hos] at hr
            clear hos
            go_quiet (fail)
            go_wp2_with fail
            go_meet
            case rel => exact ⟨by rw [show k + 1 - 1 = k by omega, HV.out, HS1.out]; simp, ⟨_, rfl⟩⟩
          · have HS1 := Lib.hid hos
            have hr := HOv.out
            rw [hos] at hr
            clear hos
            have hr2 := HAz.out
            generalize harz : arKeys.contains z.data.toList = az at *
            have HAZ := Lib.hid harz
            clear harz
            go_quiet (fail)
            go_wp2_with fail
            go_meet
            case rel => exact ⟨by rw [show k + 1 - 1 = k by omega, HV.out, HS1.out]; simp, ⟨_, rfl⟩⟩
      case rest =>
        obtain ⟨rfl, hdr⟩ := hcut
        obtain ⟨w4, rfl⟩ : ∃ w4 : World, w4 = wc := ⟨_, rfl⟩
        have hbx := hdr.below
        have hbel4 : Below w.heap.size w w4 := hbel.trans (hbx.mono hbel.size)
        have hm4 := hm3.below hbx
        have hq4 := hq3.below hbx
        have HWD4 : Hid (∀ k ≤ m, ∃ v, ws[k]? = some v ∧ w4.cell? ⟨g2, k, none⟩ = some (.string v)) := Lib.hid (by obtain ⟨n, rfl⟩ := hdr; exact HWD.out)
        have hcz4 : w4.cell? ⟨g2, m, none⟩ = some (.string z) := by obtain ⟨n, rfl⟩ := hdr; exact hcz
        clear hbx hdr hbel hm3 hq3 HWD hcz HLO HLA HOz HAz ho1 ha1 HA HO
        cases hp : (decide (2 ≤ m + 1) && osKeys.contains ((ownWords s.data.toList i).getD (m - 1) []) && arKeys.contains z.data.toList)
        case true =>
          simp only [Bool.and_eq_true, decide_eq_true_eq] at hp
          obtain ⟨⟨hp1, hp2⟩, hp3⟩ := hp
          obtain ⟨k, rfl⟩ : ∃ k, m = k + 1 := ⟨m - 1, by omega⟩
          obtain ⟨v, hv, hcv⟩ := HWD4.out k (by omega)
          have HV : Hid ((ownWords s.data.toList i).getD k [] = v.data.toList) := Lib.hid <| by rw [← HW.out, List.getD_eq_getElem?_getD, List.getElem?_map, hv]; rfl
          clear hv
          rw [show k + 1 - 1 = k by omega, HV.out] at hp2
          have HFN : Hid (fitsN S s.data.toList = (met unixKeys S v && met unixKeys S z)) := Lib.hid (fits_two HG.out (good_two HN.out HV.out HZ.out hp2 hp3))
          have HKz := Lib.hid (known_tag (t := z) (by rw [hp3, Bool.or_true]))
          have HKv := Lib.hid (known_tag (t := v) (by rw [hp2, Bool.true_or]))
          have hmn := HMN.out w4
          clear hp2 hp3
          go_wp2_with fail
          clear hmn
          refine (matchTag_any unixKeys S z q _ hq4 hm4.unix ho l1 l2 l3 HKz.out).mono ?_; rintro e w5 ⟨rfl, hd5⟩
          have hcv5 : w5.cell? ⟨g2, k, none⟩ = some (.string v) := by obtain ⟨n, rfl⟩ := hd5; exact hcv
          have hb5 := hd5.below
          have hbel5 : Below w.heap.size w w5 := hbel4.trans (hb5.mono hbel4.size)
          have hm5 := hm4.below hb5
          have hq5 := hq4.below hb5
          clear hb5 hd5 hcv hcz4
          cases hz1 : met unixKeys S z
          · have HZ1 := Lib.hid hz1; clear hz1
            go_wp2_with fail
            go_ret
            exact ⟨ret_bool (by rw [HFN.out, HZ1.out, Bool.and_false]), hbel5⟩
          · have HZ1 := Lib.hid hz1; clear hz1
            go_wp2_with fail
            refine (matchTag_any unixKeys S v q _ hq5 hm5.unix ho l1 l2 l3 HKv.out).mono ?_; rintro e w6 ⟨rfl, hd6⟩
            have hb6 := hd6.below
            have hbel6 : Below w.heap.size w w6 := hbel5.trans (hb6.mono hbel5.size)
            clear hb6 hd6
            go_wp2_with fail
            go_ret
            exact ⟨ret_bool (by rw [HFN.out, HZ1.out, Bool.and_true]), hbel6⟩
        case false =>
          have HFN : Hid (fitsN S s.data.toList = ((osKeys.contains z.data.toList || arKeys.contains z.data.toList) == false || met unixKeys S z)) := Lib.hid (fits_one HG.out (good_one HN.out HZ.out hp))
          clear hp
          go_upto_region 15 with fail
          have hd1 : decide ((1 : Int) ≤ (m : Int) + 1) = true := by rw [decide_eq_true_eq]; omega
          obtain ⟨bo4, co4, ho4, hlo4⟩ := hm4.os
          obtain ⟨ba4, ca4, ha4, hla4⟩ := hm4.ar
          have HOz := Lib.hid (fun n : Nat => hlo4 (w4.drewN n) (below_drewN (Below.refl _ _) n) z zl)
          have HAz := Lib.hid (fun n : Nat => hla4 (w4.drewN n) (below_drewN (Below.refl _ _) n) z zl)
          clear hlo4 hla4
          go_cut [109] from 90 (fun c wx => c = .bool (osKeys.contains z.data.toList || arKeys.contains z.data.toList) ∧ Drawn w4 wx)
          case first =>
            cases hos : osKeys.contains z.data.toList
            · have hr := HOz.out
              rw [hos] at hr
              have HS1 := Lib.hid hos
              clear hos
              have hr2 := HAz.out
              generalize harz : arKeys.contains z.data.toList = az at *
              have HAZ := Lib.hid harz
              clear harz
              go_quiet (fail)
              go_wp2_with fail
              go_meet
              case rel => exact ⟨by rw [HS1.out]; simp, ⟨_, rfl⟩⟩
            · have hr := HOz.out
              rw [hos] at hr
              have HS1 := Lib.hid hos
              clear hos
              go_quiet (fail)
              go_wp2_with fail
              go_meet
              case rel => exact ⟨by rw [HS1.out]; simp, ⟨_, rfl⟩⟩
          case rest =>
            obtain ⟨rfl, hdr⟩ := hcut
            obtain ⟨w5, rfl⟩ : ∃ w5 : World, w5 = wc := ⟨_, rfl⟩
            have hcz5 : w5.cell? ⟨g2, m, none⟩ = some (.string z) := by obtain ⟨n, rfl⟩ := hdr; exact hcz4
            have hb5 := hdr.below
            have hbel5 : Below w.heap.size w w5 := hbel4.trans (hb5.mono hbel4.size)
            have hm5 := hm4.below hb5
            have hq5 := hq4.below hb5
            clear hb5 hdr hcz4 HOz HAz ho4 ha4 hd1
            cases hk : (osKeys.contains z.data.toList || arKeys.contains z.data.toList)
            · rw [hk] at HFN
              clear hk
              go_wp2_with fail
              go_ret
              exact ⟨ret_bool (by rw [HFN.out]; rfl), hbel5⟩
            · have HKz := Lib.hid (known_tag (t := z) hk)
              rw [hk] at HFN
              clear hk
              go_wp2_with fail
              refine (matchTag_any unixKeys S z q _ hq5 hm5.unix ho l1 l2 l3 HKz.out).mono ?_; rintro e w6 ⟨rfl, hd6⟩
              have hb6 := hd6.below
              have hbel6 : Below w.heap.size w w6 := hbel5.trans (hb6.mono hbel5.size)
              clear hb6 hd6
              go_wp2_with fail
              go_ret
              exact ⟨ret_bool (by rw [HFN.out]; rfl), hbel6⟩
    · have HW0 := Lib.hid (drop_yes HP.out HM.out HY.out hm0 ht)
      obtain ⟨j, rfl⟩ : ∃ j, m = j + 1 := ⟨m - 1, by omega⟩
      have HL0 : Hid ((ss2.take (j + 1)).length = j + 1) := Lib.hid <| by rw [List.length_take, HM.out]; omega
      go_upto_region 11 with fail
      clear hcl
      obtain ⟨ws, hstw, HL, HW⟩ : ∃ ws : List ByteArray, Strs w3 (some ⟨g2, 0, none⟩) ws ∧ Hid (ws.length = j + 1) ∧ Hid (ws.map (fun t => t.data.toList) = ownWords s.data.toList i) := ⟨_, hst2.takeN (j + 1), HL0, HW0⟩
      have HWD := Lib.hid (HWORD.out ws j hstw HL.out)
      obtain ⟨z, hz, hcz⟩ := HWD.out j (Nat.le_refl _)
      have HZ : Hid ((ownWords s.data.toList i).getD j [] = z.data.toList) := Lib.hid <| by rw [← HW.out, List.getD_eq_getElem?_getD, List.getElem?_map, hz]; rfl
      have HN : Hid ((ownWords s.data.toList i).length = j + 1) := Lib.hid <| by rw [← HW.out, List.length_map, HL.out]
      have zl : z.size ≤ maxLen := hstw.1 z (List.mem_of_getElem? hz)
      clear hz
      have HA := Lib.hid (hm3.ar)
      have HO := Lib.hid (hm3.os)
      obtain ⟨bo, co, ho1, hlo⟩ := hm3.os
      obtain ⟨ba, ca, ha1, hla⟩ := hm3.ar
      have HLO := Lib.hid hlo
      have HLA := Lib.hid hla
      clear hlo hla
      have HOz := Lib.hid (fun n : Nat => HLO.out (w3.drewN n) (below_drewN (Below.refl _ _) n) z zl)
      have HAz := Lib.hid (fun n : Nat => HLA.out (w3.drewN n) (below_drewN (Below.refl _ _) n) z zl)
      go_cut [63] from 44 (fun c wx => c = .bool (decide (2 ≤ j + 1) && osKeys.contains ((ownWords s.data.toList i).getD (j - 1) []) && arKeys.contains z.data.toList) ∧ Drawn w3 wx)
      case first =>
        rcases Nat.eq_zero_or_pos j with rfl | hj
        · go_quiet (fail)
          go_wp2_with fail
          go_meet
          case rel => exact ⟨by simp, ⟨_, rfl⟩⟩
        · skip
          obtain ⟨k, rfl⟩ : ∃ k, j = k + 1 := ⟨j - 1, by omega⟩
          obtain ⟨v, hv, hcv⟩ := HWD.out k (by omega)
          have HV : Hid ((ownWords s.data.toList i).getD k [] = v.data.toList) := Lib.hid <| by rw [← HW.out, List.getD_eq_getElem?_getD, List.getElem?_map, hv]; rfl
          have vl : v.size ≤ maxLen := hstw.1 v (List.mem_of_getElem? hv)
          clear hv
          have hd : decide ((2 : Int) ≤ (k : Int) + 1 + 1) = true := by rw [decide_eq_true_eq]; omega
          have HOv := Lib.hid (fun n : Nat => HLO.out (w3.drewN n) (below_drewN (Below.refl _ _) n) v vl)
          cases hos : osKeys.contains v.data.toList
          · have HS1 := Lib.hid hos
            have hr := HOv.out
            rw [hos] at hr
            clear hos
            go_quiet (fail)
            go_wp2_with fail
            go_meet
            case rel => exact ⟨by rw [show k + 1 - 1 = k by omega, HV.out, HS1.out]; simp, ⟨_, rfl⟩⟩
          · have HS1 := Lib.hid hos
            have hr := HOv.out
            rw [hos] at hr
            clear hos
            have hr2 := HAz.out
            generalize harz : arKeys.contains z.data.toList = az at *
            have HAZ := Lib.hid harz
            clear harz
            go_quiet (fail)
            go_wp2_with fail
            go_meet
            case rel => exact ⟨by rw [show k + 1 - 1 = k by omega, HV.out, HS1.out]; simp, ⟨_, rfl⟩⟩
      case rest =>
        obtain ⟨rfl, hdr⟩ := hcut
        obtain ⟨w4, rfl⟩ : ∃ w4 : World, w4 = wc := ⟨_, rfl⟩
        have hbx := hdr.below
        have hbel4 : Below w.heap.size w w4 := hbel.trans (hbx.mono hbel.size)
        have hm4 := hm3.below hbx
        have hq4 := hq3.below hbx
        have HWD4 : Hid (∀ k ≤ j, ∃ v, ws[k]? = some v ∧ w4.cell? ⟨g2, k, none⟩ = some (.string v)) := Lib.hid (by obtain ⟨n, rfl⟩ := hdr; exact HWD.out)
        have hcz4 : w4.cell? ⟨g2, j, none⟩ = some (.string z) := by obtain ⟨n, rfl⟩ := hdr; exact hcz
        clear hbx hdr hbel hm3 hq3 HWD hcz HLO HLA HOz HAz ho1 ha1 HA HO
        cases hp : (decide (2 ≤ j + 1) && osKeys.contains ((ownWords s.data.toList i).getD (j - 1) []) && arKeys.contains z.data.toList)
        case true =>
          simp only [Bool.and_eq_true, decide_eq_true_eq] at hp
          obtain ⟨⟨hp1, hp2⟩, hp3⟩ := hp
          obtain ⟨k, rfl⟩ : ∃ k, j = k + 1 := ⟨j - 1, by omega⟩
          obtain ⟨v, hv, hcv⟩ := HWD4.out k (by omega)
          have HV : Hid ((ownWords s.data.toList i).getD k [] = v.data.toList) := Lib.hid <| by rw [← HW.out, List.getD_eq_getElem?_getD, List.getElem?_map, hv]; rfl
          clear hv
          rw [show k + 1 - 1 = k by omega, HV.out] at hp2
          have HFN : Hid (fitsN S s.data.toList = (met unixKeys S v && met unixKeys S z)) := Lib.hid (fits_two HG.out (good_two HN.out HV.out HZ.out hp2 hp3))
          have HKz := Lib.hid (known_tag (t := z) (by rw [hp3, Bool.or_true]))
          have HKv := Lib.hid (known_tag (t := v) (by rw [hp2, Bool.true_or]))
          have hmn := HMN.out w4
          clear hp2 hp3
          go_wp2_with fail
          clear hmn
          refine (matchTag_any unixKeys S z q _ hq4 hm4.unix ho l1 l2 l3 HKz.out).mono ?_; rintro e w5 ⟨rfl, hd5⟩
          have hcv5 : w5.cell? ⟨g2, k, none⟩ = some (.string v) := by obtain ⟨n, rfl⟩ := hd5; exact hcv
          have hb5 := hd5.below
          have hbel5 : Below w.heap.size w w5 := hbel4.trans (hb5.mono hbel4.size)
          have hm5 := hm4.below hb5
          have hq5 := hq4.below hb5
          clear hb5 hd5 hcv hcz4
          cases hz1 : met unixKeys S z
          · have HZ1 := Lib.hid hz1; clear hz1
            go_wp2_with fail
            go_ret
            exact ⟨ret_bool (by rw [HFN.out, HZ1.out, Bool.and_false]), hbel5⟩
          · have HZ1 := Lib.hid hz1; clear hz1
            go_wp2_with fail
            refine (matchTag_any unixKeys S v q _ hq5 hm5.unix ho l1 l2 l3 HKv.out).mono ?_; rintro e w6 ⟨rfl, hd6⟩
            have hb6 := hd6.below
            have hbel6 : Below w.heap.size w w6 := hbel5.trans (hb6.mono hbel5.size)
            clear hb6 hd6
            go_wp2_with fail
            go_ret
            exact ⟨ret_bool (by rw [HFN.out, HZ1.out, Bool.and_true]), hbel6⟩
        case false =>
          have HFN : Hid (fitsN S s.data.toList = ((osKeys.contains z.data.toList || arKeys.contains z.data.toList) == false || met unixKeys S z)) := Lib.hid (fits_one HG.out (good_one HN.out HZ.out hp))
          clear hp
          go_upto_region 15 with fail
          have hd1 : decide ((1 : Int) ≤ (j : Int) + 1) = true := by rw [decide_eq_true_eq]; omega
          obtain ⟨bo4, co4, ho4, hlo4⟩ := hm4.os
          obtain ⟨ba4, ca4, ha4, hla4⟩ := hm4.ar
          have HOz := Lib.hid (fun n : Nat => hlo4 (w4.drewN n) (below_drewN (Below.refl _ _) n) z zl)
          have HAz := Lib.hid (fun n : Nat => hla4 (w4.drewN n) (below_drewN (Below.refl _ _) n) z zl)
          clear hlo4 hla4
          go_cut [109] from 90 (fun c wx => c = .bool (osKeys.contains z.data.toList || arKeys.contains z.data.toList) ∧ Drawn w4 wx)
          case first =>
            cases hos : osKeys.contains z.data.toList
            · have hr := HOz.out
              rw [hos] at hr
              have HS1 := Lib.hid hos
              clear hos
              have hr2 := HAz.out
              generalize harz : arKeys.contains z.data.toList = az at *
              have HAZ := Lib.hid harz
              clear harz
              go_quiet (fail)
              go_wp2_with fail
              go_meet
              case rel => exact ⟨by rw [HS1.out]; simp, ⟨_, rfl⟩⟩
            · have hr := HOz.out
              rw [hos] at hr
              have HS1 := Lib.hid hos
              clear hos
              go_quiet (fail)
              go_wp2_with fail
              go_meet
              case rel => exact ⟨by rw [HS1.out]; simp, ⟨_, rfl⟩⟩
          case rest =>
            obtain ⟨rfl, hdr⟩ := hcut
            obtain ⟨w5, rfl⟩ : ∃ w5 : World, w5 = wc := ⟨_, rfl⟩
            have hcz5 : w5.cell? ⟨g2, j, none⟩ = some (.string z) := by obtain ⟨n, rfl⟩ := hdr; exact hcz4
            have hb5 := hdr.below
            have hbel5 : Below w.heap.size w w5 := hbel4.trans (hb5.mono hbel4.size)
            have hm5 := hm4.below hb5
            have hq5 := hq4.below hb5
            clear hb5 hdr hcz4 HOz HAz ho4 ha4 hd1
            cases hk : (osKeys.contains z.data.toList || arKeys.contains z.data.toList)
            · rw [hk] at HFN
              clear hk
              go_wp2_with fail
              go_ret
              exact ⟨ret_bool (by rw [HFN.out]; rfl), hbel5⟩
            · have HKz := Lib.hid (known_tag (t := z) hk)
              rw [hk] at HFN
              clear hk
              go_wp2_with fail
              refine (matchTag_any unixKeys S z q _ hq5 hm5.unix ho l1 l2 l3 HKz.out).mono ?_; rintro e w6 ⟨rfl, hd6⟩
              have hb6 := hd6.below
              have hbel6 : Below w.heap.size w w6 := hbel5.trans (hb6.mono hbel5.size)
              clear hb6 hd6
              go_wp2_with fail
              go_ret
              exact ⟨ret_bool (by rw [HFN.out]; rfl), hbel6⟩

end Go.Proofs.YtbociefjibgklaaDoor
