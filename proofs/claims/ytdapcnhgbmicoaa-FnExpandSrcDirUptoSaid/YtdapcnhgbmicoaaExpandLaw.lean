/-
  The walk of the law FnExpandSrcDir.
-/
import Derived.Test.YtdapcnhgbmicoaaExpand
import Derived.Test.YtdapcnhgbmicoaaVendorLaws
import Derived.Deep.Light
namespace Go.Proofs.Ytdapcnhgbmicoaa.exp
open Go.RowKit
set_option linter.unusedVariables false
set_option linter.unusedSimpArgs false

theorem zzExp_any (x f : ByteArray) (hx : x.size ≤ 70368744177664 / 16) (hf : f.size ≤ maxLen) (hj : (joinB f (pcs x)).size ≤ 140737488355328) (w : World) :
    Calls Try.prog 26 #[.string x, .string f] w (ExpPost w x f) := by
  go_enter Try.func26, Try.ntmps26
  go_wp2_with fail
  refine (expand_any x f hx hf hj _).mono ?_; rintro e w1 ⟨rfl, b1⟩
  go_wp2_with fail
  go_ret2
  exact ⟨rfl, b1⟩
theorem implExp_any (x f : ByteArray) (hx : x.size ≤ 70368744177664 / 16) (hf : f.size ≤ maxLen) (hj : (joinB f (pcs x)).size ≤ 140737488355328) (w : World) :
    Calls Try.prog 20 #[.string x, .string f] w (ExpPost w x f) := by
  go_enter Try.func20, Try.ntmps20
  go_wp2_with fail
  refine (zzExp_any x f hx hf hj _).mono ?_; rintro e w1 ⟨rfl, b1⟩
  go_wp2_with fail
  go_ret2
  exact ⟨rfl, b1⟩

/-! ### The plain law -/
theorem fi_head {c : UInt8} {s x : List UInt8} : ∀ {p : List UInt8}, c ∉ p → fi (c :: s) (p ++ (c :: s) ++ x) = some p.length
  | [], _ => by rw [List.nil_append, fi_pre ⟨x, rfl⟩]; rfl
  | a :: p, h => by
    have ha : ¬ (c :: s) <+: a :: (p ++ (c :: s) ++ x) := by
      intro hp
      have : c = a := (List.cons_prefix_cons.1 hp).1
      exact h (by simp [this])
    rw [List.cons_append, List.cons_append, fi, if_neg ha, fi_head (fun hm => h (List.mem_cons_of_mem _ hm))]
    simp
theorem fi_free {c : UInt8} {s : List UInt8} : ∀ {p : List UInt8}, c ∉ p → fi (c :: s) p = none
  | [], _ => by simp [fi]
  | a :: p, h => by
    have ha : ¬ (c :: s) <+: a :: p := by
      intro hp
      have : c = a := (List.cons_prefix_cons.1 hp).1
      exact h (by simp [this])
    rw [fi, if_neg ha, fi_free (fun hm => h (List.mem_cons_of_mem _ hm))]
    rfl
theorem splS_jl {c : UInt8} {s : List UInt8} : ∀ {xs : List (List UInt8)}, xs ≠ [] → (∀ x ∈ xs, c ∉ x) → splS (c :: s) (jl (c :: s) xs) = xs
  | [], h, _ => absurd rfl h
  | [x], _, h => by
    rw [jl]
    exact splS_none (fi_free (h x (by simp)))
  | x :: y :: r, _, h => by
    rw [jl_cons (by simp)]
    have e := fi_head (s := s) (x := jl (c :: s) (y :: r)) (h x (by simp))
    rw [splS_some (by simp) e]
    have e1 : (x ++ (c :: s) ++ jl (c :: s) (y :: r)).take x.length = x := by rw [List.append_assoc, List.take_append_of_le_length (Nat.le_refl _), List.take_length]
    have e2 : (x ++ (c :: s) ++ jl (c :: s) (y :: r)).drop (x.length + (c :: s).length) = jl (c :: s) (y :: r) := by
      rw [← List.length_append, List.drop_left]
    rw [e1, e2, splS_jl (by simp) (fun z hz => h z (List.mem_cons_of_mem _ hz))]
theorem hasB_mem {p : ByteArray} {c : UInt8} (h : hasB p c = false) : c ∉ p.data.toList := by
  unfold hasB at h
  intro hm
  have := List.any_eq_false.1 h c hm
  simp at this
def good (p : ByteArray) : Bool := asc p && !hasB p 36 && !hasB p 123 && !hasB p 125
theorem pcs_join {ss : List ByteArray} (h0 : 0 < ss.length) (h : ss.all good = true) : pcs (joinB srcd ss) = ss := by
  unfold pcs
  rw [joinB_data]
  have hs : srcd.data.toList = 36 :: [123, 83, 82, 67, 68, 73, 82, 125] := rfl
  rw [hs, splS_jl]
  · exact toBx_data ss
  · intro e
    have := congrArg List.length e
    simp at this
    rw [this] at h0
    simp at h0
  · intro x hx
    obtain ⟨p, hp, rfl⟩ := List.mem_map.1 hx
    have := List.all_eq_true.1 h p hp
    unfold good at this
    simp only [Bool.and_eq_true, Bool.not_eq_true'] at this
    exact hasB_mem this.1.1.2
def lawOk (ss : List ByteArray) (f : ByteArray) : Bool := ss.all sOk && (decide (ss.length < 2) || sOk f)
theorem expT_law {ss : List ByteArray} (f : ByteArray) (h0 : 0 < ss.length) (h : ss.all good = true) : expT (joinB srcd ss) f = joinB f ss := by
  unfold expT
  rw [pcs_join h0 h]
  split
  · cases ss with
    | nil => simp at h0
    | cons a r =>
      cases r with
      | nil => rfl
      | cons b r' => rename_i h2; simp at h2; omega
  · rfl
theorem expO_law {ss : List ByteArray} (f : ByteArray) (h0 : 0 < ss.length) (h : ss.all good = true) : expO (joinB srcd ss) f = (lawOk ss f && !(joinB f ss).toList.isEmpty) := by
  unfold expO lawOk
  rw [pcs_join h0 h]
  split
  · rename_i h2
    rw [decide_eq_true h2]
    cases ss with
    | nil => simp at h0
    | cons a r =>
      cases r with
      | nil =>
        have e1 : joinB srcd [a] = a := joinB_first srcd [a] (by simp)
        have e2 : joinB f [a] = a := joinB_first f [a] (by simp)
        rw [e1, e2]
        simp only [List.all_cons, List.all_nil, Bool.and_true, Bool.true_or]
        unfold sOk
        cases hem : a.toList.isEmpty
        · simp
        · rw [Lib.toList_data] at hem
          unfold safe
          rw [hem]
          rfl
      | cons b r' => simp at h2; omega
  · rename_i h2
    rw [decide_eq_false h2, Bool.false_or]
theorem exp_c1 : expT ⟨#[97]⟩ ⟨#[47, 98]⟩ = ⟨#[97]⟩ := by decide +kernel
theorem exp_c2 : expO ⟨#[97]⟩ ⟨#[47, 98]⟩ = true := by decide +kernel
theorem exp_c3 : (joinB ⟨#[47, 98]⟩ (pcs ⟨#[97]⟩)).size ≤ 140737488355328 := by decide +kernel

set_option maxHeartbeats 8000000 in
set_option maxRecDepth 100000 in
theorem expandArgs (A : Option Addr) (ss : List ByteArray) (cap : Nat) (f : ByteArray) (w : World) (hs : Strs w A ss) (lc : ss.length ≤ cap) (cc : cap ≤ maxLen) (wf : f.size ≤ maxLen) (bs : (ss.map fun s => s.size + 1).sum ≤ 1048576) (hf : f.size ≤ 1048576) :
    Calls Try.prog 7 #[.slice A ss.length cap, .string f] w fun e w' => e = .returned (.bool true) ∧ Below w.heap.size w w' := by
  have hl : ss.length ≤ maxLen := Nat.le_trans lc cc
  obtain ⟨hn, hM⟩ := sum_each bs
  have hfit : Hid (fits2 ss = true) := Lib.hid <| by
    unfold fits2
    rw [Bool.and_eq_true, decide_eq_true_eq, List.all_eq_true]
    exact ⟨by omega, fun s h => by have := hM s h; simp; omega⟩
  have hr1 : ss.length * (1048576 + srcd.size) ≤ maxLen ∧ (joinB srcd ss).size ≤ 70368744177664 / 16 := by
    have h3 : srcd.size = 9 := rfl
    have h4 : ss.length * (1048576 + 9) ≤ 1048576 * (1048576 + 9) := Nat.mul_le_mul_right _ hn
    have h5 := joinB_size srcd ss 1048576 hM
    rw [h3] at h5 ⊢
    unfold maxLen; omega
  have hr2 : ss.length * (1048576 + f.size) ≤ maxLen ∧ (joinB f ss).size ≤ 140737488355328 := by
    have h4 : ss.length * (1048576 + f.size) ≤ 1048576 * (1048576 + f.size) := Nat.mul_le_mul_right _ hn
    have h6 : 1048576 * (1048576 + f.size) ≤ 1048576 * (1048576 + 1048576) := Nat.mul_le_mul_left _ (by omega)
    have h5 := joinB_size f ss 1048576 hM
    unfold maxLen; omega
  have HM := Lib.hid hM
  have HR1 := Lib.hid hr1
  have HR2 := Lib.hid hr2
  clear hM hr1 hr2 bs
  go_enter Try.func7, Try.ntmps7
  go_wp2_with fail
  refine (fits2_any _ ss _ _ hs hl).mono ?_; rintro e w' ⟨rfl, rfl⟩; rw [hfit.out]
  go_wp2_with fail
  refine (implExp_any _ _ (by decide) (by decide) exp_c3 _).mono ?_; rintro e w1 ⟨rfl, b1⟩
  rw [exp_c1, exp_c2]
  go_wp2_with fail
  have hs1 := hs.below b1
  clear hs
  go_loop [7, 8, 9, 28] (fun tx wt sf i => ∃ k : Nat, k ≤ ss.length ∧ i = .int .i64 k ∧ tx = .string (joinB srcd (ss.take k)) ∧ wt = .string (joinB f (ss.take k)) ∧ sf = .bool ((ss.take k).all sOk) ∧ (ss.take k).all good = true) (fun _ _ _ i => ss.length - (intOf i).toNat)
  case atStart => exact ⟨0, Nat.zero_le _, rfl, rfl, rfl, rfl, rfl⟩
  case round =>
    obtain ⟨k, hk, rfl, rfl, rfl, rfl, hgd⟩ := hrel
    have HG := Lib.hid hgd; clear hgd
    by_cases hlt : k < ss.length
    · obtain ⟨b, off, rfl, hb, hc⟩ := hs1.2 (by omega)
      have hck := hc k hlt
      have hsz : ss[k].size ≤ maxLen := hs1.1 _ (List.getElem_mem hlt)
      have hsb : ss[k].size ≤ 1048576 := HM.out _ (List.getElem_mem hlt)
      have hnx : (ss.take (k + 1)).all sOk = ((ss.take k).all sOk && sOk ss[k]) := by rw [take_snoc_l ss k hlt, List.all_append]; simp
      have hgx : (ss.take (k + 1)).all good = ((ss.take k).all good && good ss[k]) := by rw [take_snoc_l ss k hlt, List.all_append]; simp
      have HN := Lib.hid hnx
      have HGX := Lib.hid hgx
      have hj1 : 0 < k → Hid (joinB srcd (ss.take (k + 1)) = joinB srcd (ss.take k) ++ srcd ++ ss[k]) := fun h => Lib.hid (joinB_next srcd ss k hlt h)
      have hj2 : 0 < k → Hid (joinB f (ss.take (k + 1)) = joinB f (ss.take k) ++ f ++ ss[k]) := fun h => Lib.hid (joinB_next f ss k hlt h)
      have hz1 : (joinB srcd (ss.take k)).size ≤ 1152921504606846976 := by
        have h1 := joinB_size srcd (ss.take k) 1048576 (fun s h => HM.out s (List.mem_of_mem_take h))
        have h3 : srcd.size = 9 := rfl
        have h2 : (ss.take k).length ≤ 1048576 := by rw [List.length_take]; omega
        have h4 : (ss.take k).length * (1048576 + 9) ≤ 1048576 * (1048576 + 9) := Nat.mul_le_mul_right _ h2
        rw [h3] at h1; omega
      have hz2 : (joinB f (ss.take k)).size ≤ 1152921504606846976 := by
        have h1 := joinB_size f (ss.take k) 1048576 (fun s h => HM.out s (List.mem_of_mem_take h))
        have h2 : (ss.take k).length ≤ 1048576 := by rw [List.length_take]; omega
        have h4 : (ss.take k).length * (1048576 + f.size) ≤ 1048576 * (1048576 + f.size) := Nat.mul_le_mul_right _ h2
        have h6 : 1048576 * (1048576 + f.size) ≤ 1048576 * (1048576 + 1048576) := Nat.mul_le_mul_left _ (by omega)
        omega
      have hq1 : k = 0 → Hid (joinB srcd (ss.take 1) = ss[k]) := fun h => Lib.hid (by subst h; exact joinB_first srcd ss hlt)
      have hq2 : k = 0 → Hid (joinB f (ss.take 1) = ss[k]) := fun h => Lib.hid (by subst h; exact joinB_first f ss hlt)
      clear hc hs1 hnx hgx
      generalize ss[k] = p at *
      cases ha : asc p
      · have H1 := Lib.hid ha
        clear ha hj1 hj2 hq1 hq2 hz1 hz2
        go_wp2_with fail
        refine (isASCII_any p hsz _).mono ?_; rintro e w' ⟨rfl, rfl⟩; rw [H1.out]
        go_wp2_with fail
        go_ret
        exact ⟨rfl, b1⟩
      rcases Bool.eq_false_or_eq_true (hasB p 36) with h36 | h36
      · have H1 := Lib.hid ha
        have H2 := Lib.hid h36
        clear ha h36 hj1 hj2 hq1 hq2 hz1 hz2
        go_wp2_with fail
        refine (isASCII_any p hsz _).mono ?_; rintro e w' ⟨rfl, rfl⟩; rw [H1.out]
        go_wp2_with fail
        refine (hasByte_any p _ 36 rfl hsz _).mono ?_; rintro e w' ⟨rfl, rfl⟩; rw [H2.out]
        go_wp2_with fail
        go_ret
        exact ⟨rfl, b1⟩
      rcases Bool.eq_false_or_eq_true (hasB p 123) with h123 | h123
      · have H1 := Lib.hid ha
        have H2 := Lib.hid h36
        have H3 := Lib.hid h123
        clear ha h36 h123 hj1 hj2 hq1 hq2 hz1 hz2
        go_wp2_with fail
        refine (isASCII_any p hsz _).mono ?_; rintro e w' ⟨rfl, rfl⟩; rw [H1.out]
        go_wp2_with fail
        refine (hasByte_any p _ 36 rfl hsz _).mono ?_; rintro e w' ⟨rfl, rfl⟩; rw [H2.out]
        go_wp2_with fail
        refine (hasByte_any p _ 123 rfl hsz _).mono ?_; rintro e w' ⟨rfl, rfl⟩; rw [H3.out]
        go_wp2_with fail
        go_ret
        exact ⟨rfl, b1⟩
      rcases Bool.eq_false_or_eq_true (hasB p 125) with h125 | h125
      · have H1 := Lib.hid ha
        have H2 := Lib.hid h36
        have H3 := Lib.hid h123
        have H4 := Lib.hid h125
        clear ha h36 h123 h125 hj1 hj2 hq1 hq2 hz1 hz2
        go_wp2_with fail
        refine (isASCII_any p hsz _).mono ?_; rintro e w' ⟨rfl, rfl⟩; rw [H1.out]
        go_wp2_with fail
        refine (hasByte_any p _ 36 rfl hsz _).mono ?_; rintro e w' ⟨rfl, rfl⟩; rw [H2.out]
        go_wp2_with fail
        refine (hasByte_any p _ 123 rfl hsz _).mono ?_; rintro e w' ⟨rfl, rfl⟩; rw [H3.out]
        go_wp2_with fail
        refine (hasByte_any p _ 125 rfl hsz _).mono ?_; rintro e w' ⟨rfl, rfl⟩; rw [H4.out]
        go_wp2_with fail
        go_ret
        exact ⟨rfl, b1⟩
      have HGD : Hid ((ss.take (k + 1)).all good = true) := Lib.hid <| by
        rw [HGX.out, HG.out]; unfold good; rw [ha, h36, h123, h125]; rfl
      have H1 := Lib.hid ha
      have H2 := Lib.hid h36
      have H3 := Lib.hid h123
      have H4 := Lib.hid h125
      clear ha h36 h123 h125
      generalize hoa : (ss.take k).all sOk = oa at *
      clear hoa
      have hrest : ∀ (T1 : True), True := fun _ => trivial
      clear hrest
      rcases Nat.eq_zero_or_pos k with hk0 | hk0
      · subst hk0
        have HQ1 := hq1 rfl
        have HQ2 := hq2 rfl
        have HE1 : Hid (joinB srcd (ss.take 0) = ⟨#[]⟩) := Lib.hid rfl
        have HE2 : Hid (joinB f (ss.take 0) = ⟨#[]⟩) := Lib.hid rfl
        rw [HE1.out, HE2.out]
        have hck0 : w1.cell? ⟨b, off, none⟩ = some (.string p) := by simpa using hck
        clear hj1 hj2 hq1 hq2 hz1 hz2 hck
        cases oa
        · go_wp2_with fail
          refine (isASCII_any p hsz _).mono ?_; rintro e w' ⟨rfl, rfl⟩; rw [H1.out]
          go_wp2_with fail
          refine (hasByte_any p _ 36 rfl hsz _).mono ?_; rintro e w' ⟨rfl, rfl⟩; rw [H2.out]
          go_wp2_with fail
          refine (hasByte_any p _ 123 rfl hsz _).mono ?_; rintro e w' ⟨rfl, rfl⟩; rw [H3.out]
          go_wp2_with fail
          refine (hasByte_any p _ 125 rfl hsz _).mono ?_; rintro e w' ⟨rfl, rfl⟩; rw [H4.out]
          go_wp2_with fail
          go_round
          case rel => exact ⟨1, by omega, by go_num, by rw [HQ1.out, nil_append_b], by rw [HQ2.out, nil_append_b], by rw [HN.out]; rfl, HGD.out⟩
          case measure => simp [intOf]; omega
        · cases hem : p.toList.isEmpty
          · have HE := Lib.hid (sOk_other hem)
            go_wp2_with fail
            refine (isASCII_any p hsz _).mono ?_; rintro e w' ⟨rfl, rfl⟩; rw [H1.out]
            go_wp2_with fail
            refine (hasByte_any p _ 36 rfl hsz _).mono ?_; rintro e w' ⟨rfl, rfl⟩; rw [H2.out]
            go_wp2_with fail
            refine (hasByte_any p _ 123 rfl hsz _).mono ?_; rintro e w' ⟨rfl, rfl⟩; rw [H3.out]
            go_wp2_with fail
            refine (hasByte_any p _ 125 rfl hsz _).mono ?_; rintro e w' ⟨rfl, rfl⟩; rw [H4.out]
            go_wp2_with fail
            refine (implSafe_any p hsz _).mono ?_; rintro e w' ⟨rfl, rfl⟩
            generalize hsf : safe p = sf at *
            have HSF := Lib.hid hsf; clear hsf
            go_wp2_with fail
            go_round
            case rel => exact ⟨1, by omega, by go_num, by rw [HQ1.out, nil_append_b], by rw [HQ2.out, nil_append_b], by rw [HN.out, HE.out]; simp, HGD.out⟩
            case measure => simp [intOf]; omega
          · have HE := Lib.hid (sOk_empty hem)
            go_wp2_with fail
            refine (isASCII_any p hsz _).mono ?_; rintro e w' ⟨rfl, rfl⟩; rw [H1.out]
            go_wp2_with fail
            refine (hasByte_any p _ 36 rfl hsz _).mono ?_; rintro e w' ⟨rfl, rfl⟩; rw [H2.out]
            go_wp2_with fail
            refine (hasByte_any p _ 123 rfl hsz _).mono ?_; rintro e w' ⟨rfl, rfl⟩; rw [H3.out]
            go_wp2_with fail
            refine (hasByte_any p _ 125 rfl hsz _).mono ?_; rintro e w' ⟨rfl, rfl⟩; rw [H4.out]
            go_wp2_with fail
            go_round
            case rel => exact ⟨1, by omega, by go_num, by rw [HQ1.out, nil_append_b], by rw [HQ2.out, nil_append_b], by rw [HN.out, HE.out]; rfl, HGD.out⟩
            case measure => simp [intOf]; omega
      · have HJ1 := hj1 hk0
        have HJ2 := hj2 hk0
        have h9 : srcd.size = 9 := rfl
        have H9 := Lib.hid h9
        generalize hjs : joinB srcd (ss.take k) = js at *
        generalize hjf : joinB f (ss.take k) = jf at *
        have hroom1 : js.size + 9 + p.size ≤ 9223372036854775807 := by omega
        have hroom2 : jf.size + f.size + p.size ≤ 9223372036854775807 := by omega
        clear hj1 hj2 hq1 hq2 hz1 hz2 hjs hjf h9
        cases oa
        · go_wp2_with fail
          refine (isASCII_any p hsz _).mono ?_; rintro e w' ⟨rfl, rfl⟩; rw [H1.out]
          go_wp2_with fail
          refine (hasByte_any p _ 36 rfl hsz _).mono ?_; rintro e w' ⟨rfl, rfl⟩; rw [H2.out]
          go_wp2_with fail
          refine (hasByte_any p _ 123 rfl hsz _).mono ?_; rintro e w' ⟨rfl, rfl⟩; rw [H3.out]
          go_wp2_with fail
          refine (hasByte_any p _ 125 rfl hsz _).mono ?_; rintro e w' ⟨rfl, rfl⟩; rw [H4.out]
          go_wp2_with fail
          go_round
          case rel => exact ⟨k + 1, by omega, by go_num, by rw [HJ1.out]; rfl, by rw [HJ2.out], by rw [HN.out]; rfl, HGD.out⟩
          case measure => simp [intOf]; omega
        · cases hem : p.toList.isEmpty
          · have HE := Lib.hid (sOk_other hem)
            go_wp2_with fail
            refine (isASCII_any p hsz _).mono ?_; rintro e w' ⟨rfl, rfl⟩; rw [H1.out]
            go_wp2_with fail
            refine (hasByte_any p _ 36 rfl hsz _).mono ?_; rintro e w' ⟨rfl, rfl⟩; rw [H2.out]
            go_wp2_with fail
            refine (hasByte_any p _ 123 rfl hsz _).mono ?_; rintro e w' ⟨rfl, rfl⟩; rw [H3.out]
            go_wp2_with fail
            refine (hasByte_any p _ 125 rfl hsz _).mono ?_; rintro e w' ⟨rfl, rfl⟩; rw [H4.out]
            go_wp2_with fail
            refine (implSafe_any p hsz _).mono ?_; rintro e w' ⟨rfl, rfl⟩
            generalize hsf : safe p = sf at *
            have HSF := Lib.hid hsf; clear hsf
            go_wp2_with fail
            go_round
            case rel => exact ⟨k + 1, by omega, by go_num, by rw [HJ1.out]; rfl, by rw [HJ2.out], by rw [HN.out, HE.out]; simp, HGD.out⟩
            case measure => simp [intOf]; omega
          · have HE := Lib.hid (sOk_empty hem)
            go_wp2_with fail
            refine (isASCII_any p hsz _).mono ?_; rintro e w' ⟨rfl, rfl⟩; rw [H1.out]
            go_wp2_with fail
            refine (hasByte_any p _ 36 rfl hsz _).mono ?_; rintro e w' ⟨rfl, rfl⟩; rw [H2.out]
            go_wp2_with fail
            refine (hasByte_any p _ 123 rfl hsz _).mono ?_; rintro e w' ⟨rfl, rfl⟩; rw [H3.out]
            go_wp2_with fail
            refine (hasByte_any p _ 125 rfl hsz _).mono ?_; rintro e w' ⟨rfl, rfl⟩; rw [H4.out]
            go_wp2_with fail
            go_round
            case rel => exact ⟨k + 1, by omega, by go_num, by rw [HJ1.out]; rfl, by rw [HJ2.out], by rw [HN.out, HE.out]; rfl, HGD.out⟩
            case measure => simp [intOf]; omega
    · have hkl : k = ss.length := by omega
      subst hkl
      have HG' : Hid (ss.all good = true) := Lib.hid <| by have := HG.out; rwa [List.take_length] at this
      rw [List.take_length]
      clear HG
      rcases Nat.eq_zero_or_pos ss.length with h0 | hpos
      · have e0 : (((ss.length : Nat) : Int) == 0) = true := by rw [h0]; rfl
        clear h0
        go_wp2_with fail
        go_ret
        exact ⟨rfl, b1⟩
      have e0 : (((ss.length : Nat) : Int) == 0) = false := by simp; intro e; subst e; simp at hpos
      cases ha : asc f
      · have H1 := Lib.hid ha
        clear ha
        go_wp2_with fail
        refine (isASCII_any f wf _).mono ?_; rintro e w' ⟨rfl, rfl⟩; rw [H1.out]
        go_wp2_with fail
        go_ret
        exact ⟨rfl, b1⟩
      have H1 := Lib.hid ha
      clear ha
      rcases Bool.eq_false_or_eq_true (hasB f 92) with h92 | h92
      · have H2 := Lib.hid h92
        clear h92
        go_wp2_with fail
        refine (isASCII_any f wf _).mono ?_; rintro e w' ⟨rfl, rfl⟩; rw [H1.out]
        go_wp2_with fail
        refine (hasByte_any f _ 92 rfl wf _).mono ?_; rintro e w' ⟨rfl, rfl⟩; rw [H2.out]
        go_wp2_with fail
        go_ret
        exact ⟨rfl, b1⟩
      have H2 := Lib.hid h92
      clear h92
      generalize hall : ss.all sOk = a at *
      by_cases h2 : 1 < ss.length
      · have hd : decide (ss.length < 2) = false := by simp; omega
        cases a
        · have HL : Hid (lawOk ss f = false) := Lib.hid <| by unfold lawOk; rw [hall]; rfl
          clear hall hd
          go_wp2_with fail
          refine (isASCII_any f wf _).mono ?_; rintro e w' ⟨rfl, rfl⟩; rw [H1.out]
          go_wp2_with fail
          refine (hasByte_any f _ 92 rfl wf _).mono ?_; rintro e w' ⟨rfl, rfl⟩; rw [H2.out]
          go_wp2_with fail
          refine (implExp_any (joinB srcd ss) f HR1.out.2 wf (by rw [pcs_join hpos HG'.out]; exact HR2.out.2) _).mono ?_
          rintro e w2 ⟨rfl, b2⟩
          have B2 : Below w.heap.size w w2 := b1.trans (b2.mono b1.size)
          clear b2
          rw [expT_law f hpos HG'.out, expO_law f hpos HG'.out, HL.out]
          generalize joinB f ss = j at *
          go_wp2_with fail
          all_goals go_ret
          all_goals refine ⟨ret_bool ?_, B2⟩
          all_goals go_light
          all_goals first | rfl | (simp; done) | (simp_all; done)
        · cases hem : f.toList.isEmpty
          · generalize hsf : safe f = sf at *
            have HL : Hid (lawOk ss f = sf) := Lib.hid <| by unfold lawOk; rw [hall, hd, sOk_other hem, hsf]; simp
            have HSF := Lib.hid hsf
            clear hall hd hsf
            go_wp2_with fail
            refine (isASCII_any f wf _).mono ?_; rintro e w' ⟨rfl, rfl⟩; rw [H1.out]
            go_wp2_with fail
            refine (hasByte_any f _ 92 rfl wf _).mono ?_; rintro e w' ⟨rfl, rfl⟩; rw [H2.out]
            go_wp2_with fail
            refine (implSafe_any f wf _).mono ?_; rintro e w' ⟨rfl, rfl⟩
            rw [HSF.out]
            go_wp2_with fail
            refine (implExp_any (joinB srcd ss) f HR1.out.2 wf (by rw [pcs_join hpos HG'.out]; exact HR2.out.2) _).mono ?_
            rintro e w2 ⟨rfl, b2⟩
            have B2 : Below w.heap.size w w2 := b1.trans (b2.mono b1.size)
            clear b2
            rw [expT_law f hpos HG'.out, expO_law f hpos HG'.out, HL.out]
            generalize joinB f ss = j at *
            go_wp2_with fail
            all_goals go_ret
            all_goals refine ⟨ret_bool ?_, B2⟩
            all_goals go_light
            all_goals first | rfl | (simp; done) | (simp_all; done)
          · have HL : Hid (lawOk ss f = true) := Lib.hid <| by unfold lawOk; rw [hall, hd, sOk_empty hem]; rfl
            clear hall hd
            go_wp2_with fail
            refine (isASCII_any f wf _).mono ?_; rintro e w' ⟨rfl, rfl⟩; rw [H1.out]
            go_wp2_with fail
            refine (hasByte_any f _ 92 rfl wf _).mono ?_; rintro e w' ⟨rfl, rfl⟩; rw [H2.out]
            go_wp2_with fail
            refine (implExp_any (joinB srcd ss) f HR1.out.2 wf (by rw [pcs_join hpos HG'.out]; exact HR2.out.2) _).mono ?_
            rintro e w2 ⟨rfl, b2⟩
            have B2 : Below w.heap.size w w2 := b1.trans (b2.mono b1.size)
            clear b2
            rw [expT_law f hpos HG'.out, expO_law f hpos HG'.out, HL.out]
            generalize joinB f ss = j at *
            go_wp2_with fail
            all_goals go_ret
            all_goals refine ⟨ret_bool ?_, B2⟩
            all_goals go_light
            all_goals first | rfl | (simp; done) | (simp_all; done)
      · have hd : decide (ss.length < 2) = true := by simp; omega
        have HL : Hid (lawOk ss f = a) := Lib.hid <| by unfold lawOk; rw [hall, hd]; simp
        clear hall hd
        go_wp2_with fail
        refine (isASCII_any f wf _).mono ?_; rintro e w' ⟨rfl, rfl⟩; rw [H1.out]
        go_wp2_with fail
        refine (hasByte_any f _ 92 rfl wf _).mono ?_; rintro e w' ⟨rfl, rfl⟩; rw [H2.out]
        go_wp2_with fail
        refine (implExp_any (joinB srcd ss) f HR1.out.2 wf (by rw [pcs_join hpos HG'.out]; exact HR2.out.2) _).mono ?_
        rintro e w2 ⟨rfl, b2⟩
        have B2 : Below w.heap.size w w2 := b1.trans (b2.mono b1.size)
        clear b2
        rw [expT_law f hpos HG'.out, expO_law f hpos HG'.out, HL.out]
        generalize joinB f ss = j at *
        go_wp2_with fail
        all_goals go_ret
        all_goals refine ⟨ret_bool ?_, B2⟩
        all_goals go_light
        all_goals first | rfl | (simp; done) | (simp_all; done)

end Go.Proofs.Ytdapcnhgbmicoaa.exp
