/-
  The walks of the laws FnCommentsRead and FnImportsWrong.
-/
import Derived.Test.YtgplcbobomainaaDoorLwD
namespace Go.Proofs.YtgplcbobomainaaDoor
open Go.RowKit
set_option linter.unusedVariables false
set_option linter.unusedSimpArgs false

theorem sum_each {ss : List ByteArray} {n : Nat} (h : (ss.map fun s => s.size + 1).sum ≤ n) : ss.length ≤ n ∧ ∀ s ∈ ss, s.size ≤ n := by
  induction ss generalizing n with
  | nil => simp
  | cons a t ih =>
    rw [List.map_cons, List.sum_cons] at h
    obtain ⟨h1, h2⟩ := ih (n := n - (a.size + 1)) (by omega)
    refine ⟨by rw [List.length_cons]; omega, fun s hs => ?_⟩
    rcases List.mem_cons.1 hs with rfl | hs
    · omega
    · have := h2 s hs; omega
theorem fits_of {ss : List ByteArray} (h : (ss.map fun s => s.size + 1).sum ≤ 1048576) : fits2 ss = true := by
  obtain ⟨h1, h2⟩ := sum_each h
  unfold fits2
  simp only [Bool.and_eq_true, decide_eq_true_eq]
  refine ⟨by omega, ?_⟩
  rw [List.all_eq_true]
  intro s hs
  have := h2 s hs
  simp; omega
theorem com_small {ss : List ByteArray} (h : (ss.map fun s => s.size + 1).sum ≤ 1048576) : (comB ss).size ≤ 8000000 := by
  have h1 := com_len (dl ss)
  have h2 : ((dl ss).map fun s => s.length + 6).sum ≤ 6 * (ss.map fun s => s.size + 1).sum := by
    clear h h1
    unfold dl
    induction ss with
    | nil => simp
    | cons a t ih =>
      simp only [List.map_cons, List.sum_cons] at ih ⊢
      have := size_list a
      omega
  unfold comB
  rw [BA_size]
  omega
theorem str_nil (s : ByteArray) : Value.string s = .string (s ++ ⟨#[]⟩) := by
  have e : s ++ (⟨#[]⟩ : ByteArray) = s := by
    apply WideShapes.bytes_inj
    simp [ByteArray.data_append]
  rw [e]
theorem ba_id (T : ByteArray) : (⟨T.data.toList.toArray⟩ : ByteArray) = T := by
  cases T; simp
theorem at0 {s : ByteArray} (h : 0 < s.size) : ∃ r, s.data.toList = s[0] :: r := by
  cases hl : s.data.toList with
  | nil => rw [size_list, hl] at h; simp at h
  | cons a r =>
    refine ⟨r, ?_⟩
    have e : s[0] = s.data.toList[0]'(by rw [← size_list]; exact h) := rfl
    have e2 : s[0] = a := by rw [e]; simp [hl]
    rw [e2]
theorem let_id {b : UInt8} (h : isLet b = true) : isId b = true := by
  unfold isLet at h
  unfold isId
  simp at h ⊢
  rcases h with h | h
  · exact .inl (.inl (.inl (.inr h)))
  · exact .inl (.inl (.inl (.inl h)))
/-- The text of FnCommentsRead reads back. -/
theorem comments_read {ss : List ByteArray} {zs : List Int} {s : ByteArray} (h1 : ss.all lnB = true) (h0 : 0 < s.size) (h2 : asc s = true) (h3 : isLet s[0] = true) : readCm (comB ss ++ BT zs ++ s).data.toList = some (comB ss ++ BT zs).data.toList := by
  obtain ⟨r, hr⟩ := at0 h0
  have e1 : (comB ss ++ BT zs ++ s).data.toList = (comB ss ++ BT zs).data.toList ++ s.data.toList := by simp [ByteArray.data_append]
  have e2 : (comB ss ++ BT zs).data.toList = comL (dl ss) ++ gtx zs := by unfold comB BT; simp [ByteArray.data_append, BA]
  rw [e1]
  refine comments_ok ?_ hr (stp_id (let_id h3)) ?_
  · rw [e2]
    exact gap_app (gtx_gap zs) .sp (gap_com (lines_ok h1))
  · intro b hb
    rcases List.mem_append.1 hb with hb | hb
    · rw [e2] at hb
      rcases List.mem_append.1 hb with hb | hb
      · exact com_ascii (lines_ok h1) b hb
      · exact gtx_ascii zs b hb
    · exact asc_list h2 b hb

set_option maxRecDepth 100000 in
set_option maxHeartbeats 4000000 in
theorem commentsReadArgs {E E2 : EB} (A : Option Addr) (zs : List Int) (cap : Nat) (B : Option Addr) (ss : List ByteArray) (cap2 : Nat) (s : ByteArray) (most : Int) (w : World) (hz : Ints .i64 w A zs) (cz : zs.length ≤ maxLen) (hs : Strs w B ss) (cs : ss.length ≤ maxLen) (ws : s.size ≤ maxLen) (h1 : IntKind.i64.wrap most = most)
    (bz : zs.length ≤ 1048576) (bs : (ss.map fun s => s.size + 1).sum ≤ 1048576) (b2 : s.size ≤ 1048576) (he : OkI E w) (hf : OkB E2 w) :
    Calls Tryd.prog 7 #[.slice A zs.length cap, .slice B ss.length cap2, .string s, .int .i64 most] w fun e w' => e = .returned (.bool true) ∧ Below w.heap.size w w' := by
  have ms := ws
  unfold maxLen at ws cz cs
  have hfit := Lib.hid (fits_of bs)
  have hcom := com_small bs
  clear bs
  have kc := fun (w : World) (C : Array Value) (n c : Nat) => Lib.run_convert_bytes_const (P := Tryd.prog) w 22 5 C n c Tryd.underlying22 Tryd.underlying5
  go_enter Tryd.func7, Tryd.ntmps7
  go_wp2_with fail
  refine (fits2_any B ss cap2 _ hs (by unfold maxLen; omega)).mono ?_; rintro e w' ⟨rfl, rfl⟩; rw [hfit.out]
  go_wp2_with fail
  refine (cm_works _ rfl he).mono ?_; rintro e w0 ⟨A0, cap0, rfl, b0, t0⟩
  have k0 := t0.conv (P := Tryd.prog) (dst := 9) Tryd.underlying22 Tryd.underlying5 Tryd.underlying9 cap0
  simp only [List.length_cons, List.length_nil] at k0
  have he0 := he.below b0
  have hf0 := hf.below b0
  have hz0 := hz.below b0
  have hs0 := hs.below b0
  clear t0 he hf hz hs
  go_wp2_with fail
  refine (areLines_any B ss cap2 _ hs0 (by unfold maxLen; omega)).mono ?_; rintro e w' ⟨rfl, rfl⟩
  cases hln : ss.all lnB
  · clear hln he0 hf0 hz0 hs0
    go_wp2_with fail
    go_ret
    exact ⟨rfl, b0⟩
  have HLN := Lib.hid hln
  clear hln
  cases hem : s.toList.isEmpty
  case true =>
    clear he0 hf0 hz0 hs0
    go_wp2_with fail
    go_ret
    exact ⟨rfl, b0⟩
  have hpos : 0 < s.size := by
    rw [Lib.toList_data] at hem
    rw [size_list]
    cases hq : s.data.toList with
    | nil => rw [hq] at hem; simp at hem
    | cons a r => simp
  cases ha : asc s
  · have HA := Lib.hid ha
    clear ha he0 hf0 hz0 hs0
    go_wp2_with fail
    refine (isASCII_any s ms _).mono ?_; rintro e w' ⟨rfl, rfl⟩; rw [HA.out]
    go_wp2_with fail
    go_ret
    exact ⟨rfl, b0⟩
  have HA := Lib.hid ha
  clear ha
  cases hl : isLet s[0]
  · have HL := Lib.hid hl
    clear hl he0 hf0 hz0 hs0
    go_wp2_with fail
    refine (isASCII_any s ms _).mono ?_; rintro e w' ⟨rfl, rfl⟩; rw [HA.out]
    go_wp2_with fail
    refine (isLetter_any s[0] _ rfl _).mono ?_; rintro e w' ⟨rfl, rfl⟩; rw [HL.out]
    go_wp2_with fail
    go_ret
    exact ⟨rfl, b0⟩
  have HL := Lib.hid hl
  have HFIN := Lib.hid (comments_read (zs := zs) HLN.out hpos HA.out hl)
  clear hl
  go_wp2_with fail
  refine (isASCII_any s ms _).mono ?_; rintro e w' ⟨rfl, rfl⟩; rw [HA.out]
  go_wp2_with fail
  refine (isLetter_any s[0] _ rfl _).mono ?_; rintro e w' ⟨rfl, rfl⟩; rw [HL.out]
  go_wp2_with fail
  refine (comments_any B ss cap2 _ hs0 (by unfold maxLen; omega) (by omega)).mono ?_; rintro e w' ⟨rfl, rfl⟩
  clear hs0 k0 kc
  generalize hcb : comB ss = cb at *
  clear hcb
  go_wp2_with fail
  go_loopw [12, 66] (fun o i wr => ∃ k : Nat, k ≤ zs.length ∧ i = .int .i64 k ∧ o = .string (cb ++ BT (zs.take k)) ∧ Below w0.heap.size w0 wr) (fun _ i _ => zs.length - (intOf i).toNat)
  case atStart => exact ⟨0, Nat.zero_le _, rfl, by rw [List.take_zero, BT_nil]; exact str_nil cb, Below.refl _ _⟩
  case round =>
    obtain ⟨k, hk, rfl, rfl, hbel⟩ := hrel
    by_cases hlt : k < zs.length
    · obtain ⟨b, off, rfl, hb, hc⟩ := (hz0.below hbel).2 (by omega)
      have hck := hc k hlt
      have hwf : -9223372036854775808 ≤ zs[k] ∧ zs[k] ≤ 9223372036854775807 := by simpa [Lit.wf, IntKind.min, IntKind.max, IntKind.signed, IntKind.bits] using hz0.1 zs[k] (List.getElem_mem hlt)
      obtain ⟨hw1, hw2⟩ := hwf
      obtain ⟨i, hi, hmd, hgi⟩ := gapsL_at zs[k]
      have hglen := gapAt_len zs[k]
      have hszk := BT_size (zs.take k)
      have hltk : (zs.take k).length ≤ 1048576 := by rw [List.length_take]; omega
      have hi7 : i < 7 := hi
      have HMD := Lib.hid hmd
      have HGI := Lib.hid hgi
      have HSK : gapAt zs[k] = semi → Hid (BT (zs.take (k + 1)) = BT (zs.take k)) := fun e => Lib.hid (BT_skip hlt e)
      have HAD : gapAt zs[k] ≠ semi → Hid (BT (zs.take (k + 1)) = BT (zs.take k) ++ gapAt zs[k]) := fun e => Lib.hid (BT_add hlt e)
      have hroom : (cb ++ BT (zs.take k)).size + (gapAt zs[k]).size ≤ 9223372036854775807 := by rw [ByteArray.size_append]; omega
      clear hc hz0 hmd hgi hszk hltk hglen
      go_wp2_with fail
      refine (gaps_any _).mono ?_
      rintro e w1 ⟨A1, rfl, hs1, b1⟩
      go_wp2_with fail
      refine (gaps_any _).mono ?_
      rintro e w2 ⟨A2, rfl, hs2, b2'⟩
      have hs3 := hs1.below b2'
      have B2 : Below w0.heap.size w0 w2 := (hbel.trans (b1.mono hbel.size)).trans (b2'.mono (Nat.le_trans hbel.size b1.size))
      obtain ⟨bg, og, rfl, hbg, hcg⟩ := hs3.2 (by decide)
      have hcell := hcg i hi
      rw [HGI.out] at hcell
      clear hs1 hs2 hs3 hcg b1 b2' hbel hck HFIN
      go_wp2_with fail
      refine (mod_any _ _ hw1 hw2 (by omega) (by omega) _).mono ?_; rintro e w' ⟨rfl, rfl⟩; rw [HMD.out]
      clear HMD HGI
      generalize gapAt zs[k] = x at *
      generalize hj : BT (zs.take k) = j at *
      clear hj
      cases hx : x.toList == [59, 32]
      · have HN := HAD (by intro e; subst e; rw [semi_list] at hx; exact absurd hx (by decide))
        clear HSK HAD
        go_wp2_with fail
        go_roundw
        case rel => exact ⟨k + 1, by omega, by go_num, by rw [HN.out, ByteArray.append_assoc], B2⟩
        case measure => simp [intOf]; omega
      · have HN := HSK (bytes_eq (by rw [semi_list]; simpa using hx))
        clear HSK HAD
        go_wp2_with fail
        go_roundw
        case rel => exact ⟨k + 1, by omega, by go_num, by rw [HN.out], B2⟩
        case measure => simp [intOf]; omega
    · obtain rfl : k = zs.length := by omega
      have kb := fun (w : World) (s : ByteArray) => Lib.run_convert_string_bytes (P := Tryd.prog) w 9 22 5 s Tryd.underlying9 Tryd.underlying22 Tryd.underlying5
      have hszk := BT_size zs
      rw [List.take_length]
      have hsT : (cb ++ BT zs).size ≤ 30000000 := by rw [ByteArray.size_append]; omega
      clear hz0 hszk hcom
      generalize cb ++ BT zs = T at *
      have he1 := he0.below hbel
      have hf1 := hf0.below hbel
      have hB := b0.trans (hbel.mono b0.size)
      have hroom : T.size + s.size ≤ 9223372036854775807 := by omega
      have hl32 : (T ++ s).size ≤ 4294967296 := by rw [ByteArray.size_append]; omega
      clear he0 hf0 hbel b0
      go_wp2_with fail
      refine (cm_call (s := T ++ s) most h1 (by simp) (by first | exact hl32 | (rw [← ByteArray.size_append]; exact hl32)) he1).mono ?_; rintro e w1 ⟨A1, cap1, bb, ok, rfl, r1⟩
      have hf2 := hf1.below r1.below
      clear he1 hf1
      go_wp2_with fail
      refine (co_call (s := T ++ s) (by simp) (by first | exact hl32 | (rw [← ByteArray.size_append]; exact hl32)) hf2).mono ?_; rintro e w2 ⟨A2, cap2', bb', ok', rfl, r2⟩
      obtain ⟨rfl, rfl⟩ := r1.same r2
      obtain ⟨rfl, hbb⟩ : ok = true ∧ bb = T.data.toList := by
        rcases r1.res with ⟨e1, e2⟩ | ⟨e1, e2, _⟩
        · rw [HFIN.out] at e2; injection e2 with e2; exact ⟨e1, e2.symm⟩
        · rw [HFIN.out] at e2; cases e2
      have k1 := (r1.bts.below r2.below).conv (P := Tryd.prog) (dst := 9) Tryd.underlying22 Tryd.underlying5 Tryd.underlying9 cap1
      have k2 := r2.bts.conv (P := Tryd.prog) (dst := 9) Tryd.underlying22 Tryd.underlying5 Tryd.underlying9 cap2'
      have ebb : (⟨bb.toArray⟩ : ByteArray) = T := by rw [hbb]
      rw [ebb] at k1 k2
      have hB2 := (hB.trans (r1.below.mono hB.size)).trans (r2.below.mono (Nat.le_trans hB.size r1.below.size))
      clear r1 r2 hB hf2 hbb ebb HFIN
      go_wp2_with fail
      go_ret
      exact ⟨ret_bool (by simp), hB2⟩

end Go.Proofs.YtgplcbobomainaaDoor
