/-
  The walk of the reference Skipped.
-/
import Derived.Test.YtdapcnhgbmicoaaSkipW
import Derived.Test.YtdapcnhgbmicoaaW2
namespace Go.Proofs.Ytdapcnhgbmicoaa
open Go.RowKit
set_option linter.unusedVariables false
set_option linter.unusedSimpArgs false

def FA (sub t : List UInt8) (j : Nat) : Prop := fi sub t = (fi sub (t.drop j)).map (· + j)
theorem FA.zero (sub t : List UInt8) : FA sub t 0 := by unfold FA; simp
theorem FA.next {sub t : List UInt8} {j : Nat} (h : FA sub t j) (hj : j < t.length) (hn : ¬ sub <+: t.drop j) : FA sub t (j + 1) := by
  unfold FA at h ⊢
  rw [h, fi_next hj hn, Option.map_map]
  congr 1
  funext x
  simp
  omega
theorem FA.yes {sub t : List UInt8} {j : Nat} (h : FA sub t j) (hy : sub <+: t.drop j) : fi sub t = some j := by
  unfold FA at h
  rw [h, fi_pre hy]
  simp
theorem FA.no {sub t : List UInt8} {j : Nat} (h : FA sub t j) (hj : t.length ≤ j) (hs : sub ≠ []) : fi sub t = none := by
  unfold FA at h
  rw [h, List.drop_of_length_le hj]
  simp [fi, hs]

theorem isSpace_any (b : UInt8) (w : World) :
    Calls Try.prog 9 #[.int .u8 (b.toNat : Int)] w fun e w' => e = .returned (.bool (isSp b)) ∧ w = w' := by
  have key : ∀ c : UInt8, ((b.toNat : Int) == (c.toNat : Int)) = (b == c) := fun c => by
    by_cases h : b = c
    · subst h; simp
    · rw [byte_ne h]; simp [h]
  have k1 := key 32
  have k2 := key 9
  have k3 := key 10
  have k4 := key 13
  have e : isSp b = (((b.toNat : Int) == 32) || ((b.toNat : Int) == 9) || ((b.toNat : Int) == 10) || ((b.toNat : Int) == 13)) := by
    unfold isSp
    rw [← k1, ← k2, ← k3, ← k4]; rfl
  have HE := Lib.hid e
  clear e k1 k2 k3 k4 key
  go_enter Try.func9, Try.ntmps9
  go_wp2
  all_goals go_ret
  all_goals refine ⟨ret_bool ?_, rfl⟩
  all_goals rw [HE.out]
  all_goals simp_all

theorem data_from (s : ByteArray) (k : Nat) : (s.extract k s.size).data.toList = s.data.toList.drop k := by
  rw [Lib.extract_data, List.take_of_length_le (by rw [List.length_drop, size_list]; omega)]
theorem at_data (s : ByteArray) (k : Nat) (h : k < s.size) : s.data.toList.drop k = s[k] :: s.data.toList.drop (k + 1) := by
  have e : s[k] = s.data.toList[k]'(by simpa using h) := rfl
  rw [e]
  exact List.drop_eq_getElem_cons (by simpa using h)

set_option maxRecDepth 100000 in
set_option maxHeartbeats 2000000 in
theorem skipped_any (s : ByteArray) (ws : s.size ≤ 4611686018427387904) (w : World) :
    Calls Try.prog 13 #[.string s] w fun e w' => e = .returned (.string (BA (skp s.data.toList))) ∧ w = w' := by
  go_enter Try.func13, Try.ntmps13
  go_wp2
  go_loop [0] (fun d => ∃ s' : ByteArray, d = .string s' ∧ s'.size ≤ 4611686018427387904 ∧ skp s.data.toList = skp s'.data.toList) (fun d => match d with | .string b => b.size | _ => 0)
  case atStart => exact ⟨s, rfl, ws, rfl⟩
  case round =>
    obtain ⟨s', rfl, hsz, hsk⟩ := hrel
    have HS := Lib.hid hsk; clear hsk
    cases hem : s'.toList.isEmpty
    · have hpos : 0 < s'.size := by
        rw [Lib.toList_data] at hem
        rw [size_list]
        cases hq : s'.data.toList with
        | nil => rw [hq] at hem; simp at hem
        | cons a r => simp
      have hd := at_data s' 0 hpos
      rw [List.drop_zero] at hd
      have HD := Lib.hid hd; clear hd
      cases hsp : isSp s'[0]
      · cases hb1 : beg s' ⟨#[47, 47]⟩
        · have HP := Lib.hid hsp
          have HB1 := Lib.hid hb1
          cases hb2 : beg s' ⟨#[47, 42]⟩
          · have HB2 := Lib.hid hb2
            have HK : Hid (skp s'.data.toList = s'.data.toList) := Lib.hid <| by
              unfold beg at hb1 hb2
              rw [decide_eq_false_iff_not] at hb1 hb2
              by_cases h47 : s'[0] = 47
              · exact skp_slash (r := s'.data.toList.drop 1) (by rw [← h47]; exact HD.out) hb1 hb2
              · rw [HD.out]; exact skp_other hsp h47
            clear hsp hb1 hb2
            go_wp2_with (first | (go_at_call 9; refine (isSpace_any _ _).mono ?_; rintro e w' ⟨rfl, rfl⟩; rw [HP.out]) | (go_at_call 24; fail))
            refine (begins_any s' _ (by unfold maxLen; omega) (by decide) _).mono ?_; rintro e w' ⟨rfl, rfl⟩; rw [HB1.out]
            go_wp2_with fail
            refine (begins_any s' _ (by unfold maxLen; omega) (by decide) _).mono ?_; rintro e w' ⟨rfl, rfl⟩; rw [HB2.out]
            go_wp2_with fail
            go_ret
            exact ⟨ret_string (by apply WideShapes.bytes_inj; rw [BA_data, HS.out, HK.out]), rfl⟩
          · have HB2 := Lib.hid hb2
            obtain ⟨t, ht⟩ := pre_two (of_decide_eq_true hb2)
            have hlen : t.length + 2 = s'.size := by rw [size_list, ht]; simp
            have hdr : ∀ k, 2 ≤ k → t.drop (k - 2) = s'.data.toList.drop k := fun k hk => by
              obtain ⟨j, rfl⟩ : ∃ j, k = j + 2 := ⟨k - 2, by omega⟩
              rw [ht]; simp
            have HDR := Lib.hid hdr
            have HT := Lib.hid ht
            clear hsp hb1 hb2 hdr ht
            go_wp2_with (first | (go_at_call 9; refine (isSpace_any _ _).mono ?_; rintro e w' ⟨rfl, rfl⟩; rw [HP.out]) | (go_at_call 24; fail))
            refine (begins_any s' _ (by unfold maxLen; omega) (by decide) _).mono ?_; rintro e w' ⟨rfl, rfl⟩; rw [HB1.out]
            go_wp2_with fail
            refine (begins_any s' _ (by unfold maxLen; omega) (by decide) _).mono ?_; rintro e w' ⟨rfl, rfl⟩; rw [HB2.out]
            go_wp2_with fail
            go_loop [4] (fun i => ∃ k : Nat, 2 ≤ k ∧ k ≤ s'.size ∧ i = .int .i64 k ∧ FA [42, 47] t (k - 2)) (fun i => s'.size - (intOf i).toNat)
            case atStart => exact ⟨2, by omega, by omega, rfl, FA.zero _ _⟩
            case round =>
              obtain ⟨k, hk2, hk, rfl, hfa⟩ := hrel
              have HF := Lib.hid hfa; clear hfa
              have hxs : ∀ a b, (s'.extract a b).size ≤ maxLen := fun a b => by rw [ByteArray.size_extract]; unfold maxLen; omega
              have HX := Lib.hid hxs; clear hxs
              by_cases hlt : k < s'.size
              · have HBE : Hid (beg (s'.extract k s'.size) ⟨#[42, 47]⟩ = decide ([42, 47] <+: t.drop (k - 2))) := Lib.hid <| by
                  unfold beg; rw [data_from, HDR.out k hk2]
                cases hp : decide (([42, 47] : List UInt8) <+: t.drop (k - 2))
                · have HPP := Lib.hid hp
                  have HN := Lib.hid (HF.out.next (by omega) (by simpa using hp))
                  clear hp
                  go_wp2_with fail
                  refine (begins_any _ ⟨#[42, 47]⟩ (HX.out _ _) (by decide) _).mono ?_; rintro e w' ⟨rfl, rfl⟩; rw [HBE.out, HPP.out]
                  go_wp2_with fail
                  go_round
                  case rel => exact ⟨k + 1, by omega, by omega, by go_num, by rw [show k + 1 - 2 = k - 2 + 1 by omega]; exact HN.out⟩
                  case measure => simp [intOf]; omega
                · have HPP := Lib.hid hp
                  have hyes := HF.out.yes (of_decide_eq_true hp)
                  have hk22 : k + 2 ≤ s'.size := by have := (fi_bd hyes).1; simp at this; omega
                  have HK : Hid (skp s'.data.toList = skp (s'.extract (k + 2) s'.size).data.toList) := Lib.hid <| by
                    rw [data_from, (blockR_at HT.out hyes).2, ← HDR.out (k + 2) (by omega)]
                    rw [show k + 2 - 2 = k - 2 + 2 by omega]
                  clear hp hyes
                  go_wp2_with fail
                  refine (begins_any _ ⟨#[42, 47]⟩ (HX.out _ _) (by decide) _).mono ?_; rintro e w' ⟨rfl, rfl⟩; rw [HBE.out, HPP.out]
                  have hmin : min (s'.size : Int) ((k : Int) + 2) = (k : Int) + 2 := by omega
                  go_wp2_with fail
                  go_round
                  case rel => exact ⟨s'.extract (k + 2) s'.size, by rw [show (if (k : Int) + 2 < (s'.size : Int) then (k : Int) + 2 else (s'.size : Int)).toNat = k + 2 from by split <;> omega], by rw [ByteArray.size_extract]; omega, by rw [HS.out, HK.out]⟩
                  case measure => simp; omega
              · have HK : Hid (skp s'.data.toList = []) := Lib.hid (blockR_no HT.out (HF.out.no (by omega) (by simp)))
                have hks : k = s'.size := by omega
                subst hks
                go_wp2_with fail
                go_round
                case rel => exact ⟨ByteArray.empty, rfl, by decide, by rw [HS.out, HK.out]; rfl⟩
                case measure => simp; omega
        · have HP := Lib.hid hsp
          have HB1 := Lib.hid hb1
          obtain ⟨t, ht⟩ := pre_two (of_decide_eq_true hb1)
          have hlen : t.length + 2 = s'.size := by rw [size_list, ht]; simp
          have hdr : ∀ k, 2 ≤ k → t.drop (k - 2) = s'.data.toList.drop k := fun k hk => by
            obtain ⟨j, rfl⟩ : ∃ j, k = j + 2 := ⟨k - 2, by omega⟩
            rw [ht]; simp
          have HDR := Lib.hid hdr
          have HT := Lib.hid ht
          clear hsp hb1 hdr ht
          go_wp2_with (first | (go_at_call 9; refine (isSpace_any _ _).mono ?_; rintro e w' ⟨rfl, rfl⟩; rw [HP.out]) | (go_at_call 24; fail))
          refine (begins_any s' _ (by unfold maxLen; omega) (by decide) _).mono ?_; rintro e w' ⟨rfl, rfl⟩; rw [HB1.out]
          go_wp2_with fail
          go_loop [3] (fun i => ∃ k : Nat, 2 ≤ k ∧ k ≤ s'.size ∧ i = .int .i64 k ∧ FA [10] t (k - 2)) (fun i => s'.size - (intOf i).toNat)
          case atStart => exact ⟨2, by omega, by omega, rfl, FA.zero _ _⟩
          case round =>
            obtain ⟨k, hk2, hk, rfl, hfa⟩ := hrel
            have HF := Lib.hid hfa; clear hfa
            by_cases hlt : k < s'.size
            · have HAT := Lib.hid (at_data s' k hlt)
              by_cases hb : s'[k] = 10
              · have hyes := HF.out.yes (by rw [HDR.out k hk2, HAT.out, hb]; exact ⟨_, rfl⟩)
                have HK : Hid (skp s'.data.toList = skp (s'.extract k s'.size).data.toList) := Lib.hid <| by
                  rw [data_from, HAT.out, hb, skp_sp (by decide), ← HDR.out (k + 1) (by omega), HT.out, skp_line]
                  unfold lineR
                  rw [hyes, show k + 1 - 2 = k - 2 + 1 by omega]
                have e0 : ((s'[k].toNat : Int) == 10) = true := byte_eq hb
                have e1 : ((s'[k].toNat : Int) != 10) = false := by simp [bne, e0]
                clear hb hyes
                go_wp2_with fail
                go_round
                case rel => exact ⟨s'.extract k s'.size, rfl, by rw [ByteArray.size_extract]; omega, by rw [HS.out, HK.out]⟩
                case measure => simp; omega
              · have HN := Lib.hid (HF.out.next (by omega) (by rw [HDR.out k hk2, HAT.out]; simp; exact fun e => hb e.symm))
                have e0 : ((s'[k].toNat : Int) == 10) = false := byte_ne hb
                have e1 : ((s'[k].toNat : Int) != 10) = true := by simp [bne, e0]
                clear hb
                go_wp2_with fail
                go_round
                case rel => exact ⟨k + 1, by omega, by omega, by go_num, by rw [show k + 1 - 2 = k - 2 + 1 by omega]; exact HN.out⟩
                case measure => simp [intOf]; omega
            · have HK : Hid (skp s'.data.toList = skp (s'.extract k s'.size).data.toList) := Lib.hid <| by
                rw [data_from, HT.out, skp_line]
                unfold lineR
                rw [HF.out.no (by omega) (by simp), ← HT.out, List.drop_of_length_le (by rw [← size_list]; omega)]
              go_wp2_with fail
              go_round
              case rel => exact ⟨s'.extract k s'.size, rfl, by rw [ByteArray.size_extract]; omega, by rw [HS.out, HK.out]⟩
              case measure => simp; omega
      · have HP := Lib.hid hsp
        have HK : Hid (skp s'.data.toList = skp (s'.extract 1 s'.size).data.toList) := Lib.hid <| by rw [data_from, HD.out, skp_sp hsp]; rfl
        clear hsp
        go_wp2_with (go_at_call 9; refine (isSpace_any _ _).mono ?_; rintro e w' ⟨rfl, rfl⟩; rw [HP.out])
        go_round
        case rel => exact ⟨s'.extract 1 s'.size, rfl, by rw [ByteArray.size_extract]; omega, by rw [HS.out, HK.out]⟩
        case measure => simp; omega
    · have HE : Hid (skp s'.data.toList = s'.data.toList) := Lib.hid <| by
        rw [Lib.toList_data] at hem
        have : s'.data.toList = [] := by simpa using hem
        rw [this]; rfl
      go_wp2
      go_ret
      exact ⟨ret_string (by apply WideShapes.bytes_inj; rw [BA_data, HS.out, HE.out]), rfl⟩

end Go.Proofs.Ytdapcnhgbmicoaa
