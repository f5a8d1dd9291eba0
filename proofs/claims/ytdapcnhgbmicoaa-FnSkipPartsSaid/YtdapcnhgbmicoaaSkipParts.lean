/-
  The walk of the law FnSkipParts.
-/
import Derived.Test.YtdapcnhgbmicoaaSkipSpaces
import Derived.Test.YtdapcnhgbmicoaaGaps
import Derived.Test.YtdapcnhgbmicoaaInts
import Derived.Test.YtdapcnhgbmicoaaStrsB
namespace Go.Proofs.Ytdapcnhgbmicoaa
open Go.RowKit
set_option linter.unusedVariables false
set_option linter.unusedSimpArgs false

theorem mod_any (g n : Int) (h1 : -9223372036854775808 ≤ g) (h2 : g ≤ 9223372036854775807) (hn : 0 < n) (hn2 : n ≤ 1000000) (w : World) :
    Calls Try.prog 12 #[.int .i64 g, .int .i64 n] w fun e w' => e = .returned (.int .i64 (md g n)) ∧ w = w' := by
  have hb1 : -n < g.tmod n := Int.lt_tmod_of_pos _ hn
  have hb2 : g.tmod n < n := Int.tmod_lt_of_pos _ hn
  have HE := Lib.hid (md_eq g hn)
  go_enter Try.func12, Try.ntmps12
  go_wp2
  go_ret
  exact ⟨ret_int HE.out, rfl⟩

def GapsPost (w : World) (e : Ending) (w' : World) : Prop := ∃ A, e = .returned (.slice A 7 7) ∧ Strs w' A gapsL ∧ Below w.heap.size w w'
theorem gaps_any (w : World) :
    Calls Try.prog 11 #[] w (GapsPost w) := by
  go_enter Try.func11, Try.ntmps11
  go_wp2
  exact bodyPost_ret (v := .slice (some ⟨w.heap.size, 0, none⟩) 7 7) (by simp [results, Try.results11, go_sem]) rfl ⟨_, rfl, Strs.newRow _ _ gapsL _ _ rfl (by decide), below_new _ _⟩

theorem gapsL_at (g : Int) : ∃ (i : Nat) (h : i < gapsL.length), md g 7 = (i : Int) ∧ gapsL[i] = gapAt g := by
  have hb := md_bd g (n := 7) (by omega)
  obtain ⟨i, hi⟩ := Int.eq_ofNat_of_zero_le hb.1
  have hl : i < gapsL.length := by show i < 7; omega
  refine ⟨i, hl, hi, ?_⟩
  unfold gapAt
  rw [hi]
  simp [List.getD_eq_getElem?_getD, hl]
theorem gapAt_len (g : Int) : (gapAt g).size ≤ 14 := by
  obtain ⟨i, h, _, e⟩ := gapsL_at g
  rw [← e]
  have hm : ∀ s ∈ gapsL, s.size ≤ 14 := by decide
  exact hm _ (List.getElem_mem h)

theorem semi_list : semi.toList = [59, 32] := by rw [Lib.toList_data]; rfl
def BT (zs : List Int) : ByteArray := BA (gtx zs)
theorem BT_nil : BT [] = ⟨#[]⟩ := rfl
theorem BT_skip {zs : List Int} {k : Nat} (h : k < zs.length) (e : gapAt zs[k] = semi) : BT (zs.take (k + 1)) = BT (zs.take k) := by
  unfold BT
  rw [gtx_snoc zs k h]
  unfold gapT
  rw [if_pos e, List.append_nil]
theorem BT_add {zs : List Int} {k : Nat} (h : k < zs.length) (e : gapAt zs[k] ≠ semi) : BT (zs.take (k + 1)) = BT (zs.take k) ++ gapAt zs[k] := by
  unfold BT
  apply WideShapes.bytes_inj
  rw [gtx_snoc zs k h, ByteArray.data_append, Array.toList_append, BA_data, BA_data]
  unfold gapT
  rw [if_neg e]
theorem BT_size (zs : List Int) : (BT zs).size ≤ zs.length * 14 := by
  unfold BT; rw [BA_size]; exact gtx_len zs
theorem skp_all {zs : List Int} {s : ByteArray} (h0 : 0 < s.size) (h1 : isSp s[0] = false) (h2 : s[0] ≠ 47) : BA (skp (BT zs ++ s).data.toList) = s := by
  apply WideShapes.bytes_inj
  have hd := at_data s 0 h0
  rw [List.drop_zero] at hd
  unfold BT
  rw [BA_data, ByteArray.data_append, Array.toList_append, BA_data, skp_gtx, hd]
  exact skp_other h1 h2

set_option maxRecDepth 100000 in
set_option maxHeartbeats 2000000 in
theorem skipPartsArgs (A : Option Addr) (zs : List Int) (cap : Nat) (s : ByteArray) (w : World) (hz : Ints .i64 w A zs) (lz : zs.length ≤ cap) (cz : cap ≤ maxLen) (ws : s.size ≤ maxLen) :
    Calls Try.prog 3 #[.slice A zs.length cap, .string s] w fun e w' => e = .returned (.bool true) ∧ Below w.heap.size w w' := by
  have ms := ws
  unfold maxLen at ws cz
  have kc := fun (w : World) (C : Array Value) (n c : Nat) => Lib.run_convert_bytes_const (P := Try.prog) w 26 5 C n c Try.underlying26 Try.underlying5
  by_cases hbig : 2147483647 < zs.length ∨ 2147483647 < s.size
  · rcases hbig with hbig | hbig
    all_goals
      go_enter Try.func3, Try.ntmps3
      go_wp2_with fail
      all_goals go_ret
      all_goals exact ⟨rfl, Below.refl _ _⟩
  have hs : zs.length ≤ 2147483647 ∧ s.size ≤ 2147483647 := by omega
  obtain ⟨hzl, hsl⟩ := hs
  clear hbig
  cases hem : s.toList.isEmpty
  · have hpos : 0 < s.size := by
      rw [Lib.toList_data] at hem
      rw [size_list]
      cases hq : s.data.toList with
      | nil => rw [hq] at hem; simp at hem
      | cons a r => simp
    cases ha : asc s
    · have HA := Lib.hid ha; clear ha
      go_enter Try.func3, Try.ntmps3
      go_wp2_with fail
      refine (isASCII_any s ms _).mono ?_; rintro e w' ⟨rfl, rfl⟩; rw [HA.out]
      go_wp2_with fail
      refine (impl_c1 w _).mono ?_; rintro e w1 ⟨rfl, b1⟩
      go_wp2_with fail
      go_ret
      exact ⟨rfl, b1⟩
    have HA := Lib.hid ha; clear ha
    cases hsp : isSp s[0]
    · have HSP := Lib.hid hsp
      by_cases h47 : s[0] = 47
      · have e0 : ((s[0].toNat : Int) == 47) = true := byte_eq h47
        clear h47 hsp
        go_enter Try.func3, Try.ntmps3
        go_wp2_with fail
        refine (isASCII_any s ms _).mono ?_; rintro e w' ⟨rfl, rfl⟩; rw [HA.out]
        go_wp2_with fail
        refine (isSpace_any _ _).mono ?_; rintro e w' ⟨rfl, rfl⟩; rw [HSP.out]
        go_wp2_with fail
        refine (impl_c1 w _).mono ?_; rintro e w1 ⟨rfl, b1⟩
        go_wp2_with fail
        go_ret
        exact ⟨rfl, b1⟩
      · have HFin := Lib.hid (skp_all (zs := zs) hpos hsp h47)
        have e0 : ((s[0].toNat : Int) == 47) = false := byte_ne h47
        clear h47 hsp
        go_enter Try.func3, Try.ntmps3
        go_wp2_with fail
        refine (isASCII_any s ms _).mono ?_; rintro e w' ⟨rfl, rfl⟩; rw [HA.out]
        go_wp2_with fail
        refine (isSpace_any _ _).mono ?_; rintro e w' ⟨rfl, rfl⟩; rw [HSP.out]
        go_wp2_with fail
        clear kc
        go_loopw [5, 40] (fun o i wr => ∃ k : Nat, k ≤ zs.length ∧ i = .int .i64 k ∧ o = .string (BT (zs.take k)) ∧ Below w.heap.size w wr) (fun _ i _ => zs.length - (intOf i).toNat)
        case atStart => exact ⟨0, Nat.zero_le _, rfl, rfl, Below.refl _ _⟩
        case round =>
          obtain ⟨k, hk, rfl, rfl, hbel⟩ := hrel
          by_cases hlt : k < zs.length
          · obtain ⟨b, off, rfl, hb, hc⟩ := (hz.below hbel).2 (by omega)
            have hck := hc k hlt
            have hwf : -9223372036854775808 ≤ zs[k] ∧ zs[k] ≤ 9223372036854775807 := by simpa [Lit.wf, IntKind.min, IntKind.max, IntKind.signed, IntKind.bits] using hz.1 zs[k] (List.getElem_mem hlt)
            obtain ⟨hw1, hw2⟩ := hwf
            obtain ⟨i, hi, hmd, hgi⟩ := gapsL_at zs[k]
            have hglen := gapAt_len zs[k]
            have hszk := BT_size (zs.take k)
            have hltk : (zs.take k).length ≤ 2147483647 := by rw [List.length_take]; omega
            have hi7 : i < 7 := hi
            have HMD := Lib.hid hmd
            have HGI := Lib.hid hgi
            have HSK : gapAt zs[k] = semi → Hid (BT (zs.take (k + 1)) = BT (zs.take k)) := fun e => Lib.hid (BT_skip hlt e)
            have HAD : gapAt zs[k] ≠ semi → Hid (BT (zs.take (k + 1)) = BT (zs.take k) ++ gapAt zs[k]) := fun e => Lib.hid (BT_add hlt e)
            have hroom : (BT (zs.take k)).size + (gapAt zs[k]).size ≤ 9223372036854775807 := by omega
            clear hc hz hmd hgi hszk hltk hglen
            go_wp2_with fail
            refine (gaps_any _).mono ?_
            rintro e w1 ⟨A1, rfl, hs1, b1⟩
            go_wp2_with fail
            refine (gaps_any _).mono ?_
            rintro e w2 ⟨A2, rfl, hs2, b2⟩
            have hs3 := hs1.below b2
            have B2 : Below w.heap.size w w2 := (hbel.trans (b1.mono hbel.size)).trans (b2.mono (Nat.le_trans hbel.size b1.size))
            obtain ⟨bg, og, rfl, hbg, hcg⟩ := hs3.2 (by decide)
            have hcell := hcg i hi
            rw [HGI.out] at hcell
            clear hs1 hs2 hs3 hcg b1 b2 hbel hck HFin
            go_wp2_with fail
            refine (mod_any _ _ hw1 hw2 (by omega) (by omega) _).mono ?_; rintro e w' ⟨rfl, rfl⟩; rw [HMD.out]
            clear HMD HGI
            generalize gapAt zs[k] = x at *
            generalize hj : BT (zs.take k) = j at *
            clear hj
            cases hx : x.toList == [59, 32]
            · have HN := HAD (by intro e; subst e; rw [semi_list] at hx; exact absurd hx (by decide))
              clear HSK HAD
              go_wp2_with fail
              go_roundw
              case rel => exact ⟨k + 1, by omega, by go_num, by rw [HN.out], B2⟩
              case measure => simp [intOf]; omega
            · have HN := HSK (bytes_eq (by rw [semi_list]; simpa using hx))
              clear HSK HAD
              go_wp2_with fail
              go_roundw
              case rel => exact ⟨k + 1, by omega, by go_num, by rw [HN.out], B2⟩
              case measure => simp [intOf]; omega
          · obtain rfl : k = zs.length := by omega
            have kc := fun (w : World) (C : Array Value) (n c : Nat) => Lib.run_convert_bytes_const (P := Try.prog) w 26 5 C n c Try.underlying26 Try.underlying5
            have kb := fun (w : World) (s : ByteArray) => Lib.run_convert_string_bytes (P := Try.prog) w 9 26 5 s Try.underlying9 Try.underlying26 Try.underlying5
            have hszk := BT_size zs
            rw [List.take_length]
            clear hz
            generalize BT zs = j at *
            have hroom : j.size + s.size ≤ 9223372036854775807 := by omega
            have hroom2 : (j ++ s).size ≤ 70368744177664 := by rw [ByteArray.size_append]; omega
            go_wp2_with fail
            refine (impl_c1 _ _).mono ?_; rintro e w1 ⟨rfl, b1⟩
            have B1 : Below w.heap.size w w1 := hbel.trans (b1.mono hbel.size)
            clear b1 hbel
            go_wp2_with fail
            have b2 := bytesWorld_below w1 5 (j ++ s)
            have s2 := bytesWorld_bts w1 5 (j ++ s)
            generalize Lib.bytesWorld w1 5 (j ++ s) = w2 at *
            refine (implSkip_any _ (j ++ s).data.toList _ _ (by simp) _ s2 (by first | exact hroom2 | (rw [← ByteArray.size_append]; exact hroom2))).mono ?_
            rintro e w3 ⟨rfl, b3⟩
            have B3 : Below w.heap.size w w3 := (B1.trans (b2.mono B1.size)).trans (b3.mono (Nat.le_trans B1.size b2.size))
            rw [HFin.out]
            clear b2 b3 s2
            go_wp2_with fail
            go_ret
            exact ⟨ret_bool (by simp), B3⟩
    · have HSP := Lib.hid hsp
      clear hsp
      go_enter Try.func3, Try.ntmps3
      go_wp2_with fail
      refine (isASCII_any s ms _).mono ?_; rintro e w' ⟨rfl, rfl⟩; rw [HA.out]
      go_wp2_with fail
      refine (isSpace_any _ _).mono ?_; rintro e w' ⟨rfl, rfl⟩; rw [HSP.out]
      go_wp2_with fail
      refine (impl_c1 w _).mono ?_; rintro e w1 ⟨rfl, b1⟩
      go_wp2_with fail
      go_ret
      exact ⟨rfl, b1⟩
  · go_enter Try.func3, Try.ntmps3
    go_wp2_with fail
    refine (impl_c1 w _).mono ?_; rintro e w1 ⟨rfl, b1⟩
    go_wp2_with fail
    go_ret
    exact ⟨rfl, b1⟩

end Go.Proofs.Ytdapcnhgbmicoaa
