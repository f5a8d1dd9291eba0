/-
  The walk of skipSpaceOrComment of package build.
-/
import Derived.Test.YtdapcnhgbmicoaaBytes
import Derived.Test.YtdapcnhgbmicoaaSkip
namespace Go.Proofs.Ytdapcnhgbmicoaa
open Go.RowKit
set_option linter.unusedVariables false
set_option linter.unusedSimpArgs false

theorem byte_ne {b c : UInt8} (h : b ≠ c) : ((b.toNat : Int) == (c.toNat : Int)) = false := by
  simp; intro e; exact h (UInt8.toNat_inj.1 (by omega))
theorem byte_eq {b c : UInt8} (h : b = c) : ((b.toNat : Int) == (c.toNat : Int)) = true := by
  simp [h]

def SkipPost (w : World) (l0 : List UInt8) (e : Ending) (w' : World) : Prop :=
  ∃ A n c, e = .returned (.slice A n c) ∧ (skp l0).length = n ∧ Bts w' A (skp l0) ∧ Below w.heap.size w w'

theorem bfi_none {l sub : List UInt8} (h : fi sub l = none) : bfi l sub = -1 := by
  unfold bfi fidx; rw [BA_data, BA_data, h]
theorem bfi_some {l sub : List UInt8} {i : Nat} (h : fi sub l = some i) : bfi l sub = i := by
  unfold bfi fidx; rw [BA_data, BA_data, h]

theorem sp_not {x : UInt8} (h : isSp x = false) : x ≠ 32 ∧ x ≠ 9 ∧ x ≠ 13 ∧ x ≠ 10 := by
  refine ⟨?_, ?_, ?_, ?_⟩ <;> (rintro rfl; exact absurd h (by decide))

def lenOf : Value → Nat
  | .slice _ n _ => n
  | _ => 0

set_option maxRecDepth 100000 in
set_option maxHeartbeats 2000000 in
theorem skip_any (A : Option Addr) (l : List UInt8) (n c : Nat) (hn : l.length = n) (w : World) (hl : Bts w A l) (hc : n ≤ c) (hnm : n ≤ 4611686018427387904) (hcm : c ≤ 9223372036854775807) :
    Calls Try.prog 28 #[.slice A n c] w (SkipPost w l) := by
  have HN := Lib.hid hn; clear hn
  go_enter Try.func28, Try.ntmps28
  go_wp2
  go_loopw [0] (fun d wr => ∃ A l' n c, d = .slice A n c ∧ l'.length = n ∧ n ≤ c ∧ n ≤ 4611686018427387904 ∧ c ≤ 9223372036854775807 ∧ Bts wr A l' ∧ Below w.heap.size w wr ∧ skp l = skp l') (fun d _ => lenOf d)
  case atStart => exact ⟨_, l, _, _, rfl, HN.out, hc, hnm, hcm, hl, Below.refl _ _, rfl⟩
  case round =>
    obtain ⟨A', l', n', c', rfl, hn', hc', hnm', hcm', hb', hbel, hsk⟩ := hrel
    have HN' := Lib.hid hn'
    have HS := Lib.hid hsk; clear hsk
    clear hl hc hnm hcm
    cases l' with
    | nil =>
      obtain rfl : n' = 0 := by simpa using hn'.symm
      clear hn'
      go_wp2
      exact bodyPost_ret (v := .slice A' 0 c') (by simp [results, Try.results28, go_sem]) rfl ⟨A', 0, c', rfl, by rw [HS.out]; rfl, by rw [HS.out]; exact hb', hbel⟩
    | cons x r =>
      obtain ⟨b, off, rfl, hbk, hcell⟩ := hb'.at_ (k := 0) (by simp)
      have hx0 : wr.cell? ⟨b, off, none⟩ = some (.int .u8 (x.toNat : Int)) := by have := hcell 0 (by simp); rw [Nat.add_zero] at this; exact this
      have hpos : 0 < n' := by rw [← hn']; simp
      clear hcell hn'
      by_cases hsp : isSp x = true
      · have HK := Lib.hid (skp_sp (r := r) hsp)
        have hcut := hb'.cutL (k := 1) (c := c') (by simp) (by rw [HN'.out]; exact hc')
        have hxs : x = 32 ∨ x = 9 ∨ x = 13 ∨ x = 10 := by
          unfold isSp at hsp
          simp only [Bool.or_eq_true, beq_iff_eq] at hsp
          rcases hsp with ((h | h) | h) | h
          · exact .inl h
          · exact .inr (.inl h)
          · exact .inr (.inr (.inr h))
          · exact .inr (.inr (.inl h))
        clear hsp
        rcases hxs with h | h | h | h
        · have hx1 : wr.cell? ⟨b, off, none⟩ = some (.int .u8 32) := by rw [hx0, h]; rfl
          clear hx0 h hb'
          go_wp2
          go_roundw
          case rel => exact ⟨_, r, _, _, rfl, by have := HN'.out; simp at this; omega, by omega, by omega, by omega, hcut, hbel, by rw [HS.out, HK.out]⟩
          case measure => simp only [lenOf]; omega
        · have hx1 : wr.cell? ⟨b, off, none⟩ = some (.int .u8 9) := by rw [hx0, h]; rfl
          clear hx0 h hb'
          go_wp2
          go_roundw
          case rel => exact ⟨_, r, _, _, rfl, by have := HN'.out; simp at this; omega, by omega, by omega, by omega, hcut, hbel, by rw [HS.out, HK.out]⟩
          case measure => simp only [lenOf]; omega
        · have hx1 : wr.cell? ⟨b, off, none⟩ = some (.int .u8 13) := by rw [hx0, h]; rfl
          clear hx0 h hb'
          go_wp2
          go_roundw
          case rel => exact ⟨_, r, _, _, rfl, by have := HN'.out; simp at this; omega, by omega, by omega, by omega, hcut, hbel, by rw [HS.out, HK.out]⟩
          case measure => simp only [lenOf]; omega
        · have hx1 : wr.cell? ⟨b, off, none⟩ = some (.int .u8 10) := by rw [hx0, h]; rfl
          clear hx0 h hb'
          go_wp2
          go_roundw
          case rel => exact ⟨_, r, _, _, rfl, by have := HN'.out; simp at this; omega, by omega, by omega, by omega, hcut, hbel, by rw [HS.out, HK.out]⟩
          case measure => simp only [lenOf]; omega
      · have hsp' : isSp x = false := by simpa using hsp
        by_cases hx47 : x = 47
        · have hx1 : wr.cell? ⟨b, off, none⟩ = some (.int .u8 47) := by rw [hx0, hx47]; rfl
          clear hx0
          have hpos1 : 1 ≤ n' := hpos
          cases hp : pre (x :: r) [47, 47]
          · have HP := Lib.hid hp
            cases hq : pre (x :: r) [47, 42]
            · have HQ := Lib.hid hq
              have HK := Lib.hid (skp_slash (l := x :: r) (r := r) (by rw [hx47]) (by unfold pre at hp; simpa using hp) (by unfold pre at hq; simpa using hq))
              clear hp hq hx47 hsp hsp'
              go_wp2_with fail
              refine (slashSlash_any _).mono ?_
              rintro e w1 ⟨rfl, hw1⟩
              have b1 : Below wr.heap.size wr w1 := by rw [← hw1]; exact below_new _ _
              have s1 : Bts w1 (some ⟨wr.heap.size, 0, none⟩) [47, 47] := by rw [← hw1]; exact Bts.newRow _ _ _ _ _ rfl
              clear hw1
              go_wp2_with fail
              refine (bytesHasPrefix_any _ _ _ _ _ _ (x :: r) [47, 47] HN'.out rfl _ (hb'.below b1) s1 hc' (by unfold maxLen; omega) (by decide)).mono ?_
              rintro e w' ⟨rfl, rfl⟩
              rw [HP.out]
              go_wp2_with fail
              refine (slashStar_any _).mono ?_
              rintro e w2 ⟨rfl, hw2⟩
              have b2 : Below w1.heap.size w1 w2 := by rw [← hw2]; exact below_new _ _
              have s2 : Bts w2 (some ⟨w1.heap.size, 0, none⟩) [47, 42] := by rw [← hw2]; exact Bts.newRow _ _ _ _ _ rfl
              clear hw2
              go_wp2_with fail
              refine (bytesHasPrefix_any _ _ _ _ _ _ (x :: r) [47, 42] HN'.out rfl _ ((hb'.below b1).below b2) s2 hc' (by unfold maxLen; omega) (by decide)).mono ?_
              rintro e w' ⟨rfl, rfl⟩
              rw [HQ.out]
              have B2 : Below w.heap.size w w2 := (hbel.trans (b1.mono hbel.size)).trans (b2.mono (Nat.le_trans hbel.size b1.size))
              go_wp2
              exact bodyPost_ret (v := .slice (some ⟨b, off, none⟩) n' c') (by simp [results, Try.results28, go_sem]) rfl ⟨(some ⟨b, off, none⟩), n', c', rfl, by rw [HS.out, HK.out]; exact HN'.out, by rw [HS.out, HK.out]; exact (hb'.below b1).below b2, B2⟩
            · have HQ := Lib.hid hq
              obtain ⟨t, ht⟩ := pre_two (of_decide_eq_true hq)
              have htl : t.length + 2 = n' := by have := HN'.out; rw [ht] at this; simpa using this
              have hdr : (x :: r).drop 2 = t := by rw [ht]; rfl
              have HT := Lib.hid ht
              clear hp hq hx47 hsp hsp' ht
              go_wp2_with fail
              refine (slashSlash_any _).mono ?_
              rintro e w1 ⟨rfl, hw1⟩
              have b1 : Below wr.heap.size wr w1 := by rw [← hw1]; exact below_new _ _
              have s1 : Bts w1 (some ⟨wr.heap.size, 0, none⟩) [47, 47] := by rw [← hw1]; exact Bts.newRow _ _ _ _ _ rfl
              clear hw1
              go_wp2_with fail
              refine (bytesHasPrefix_any _ _ _ _ _ _ (x :: r) [47, 47] HN'.out rfl _ (hb'.below b1) s1 hc' (by unfold maxLen; omega) (by decide)).mono ?_
              rintro e w' ⟨rfl, rfl⟩
              rw [HP.out]
              go_wp2_with fail
              refine (slashStar_any _).mono ?_
              rintro e w2 ⟨rfl, hw2⟩
              have b2 : Below w1.heap.size w1 w2 := by rw [← hw2]; exact below_new _ _
              have s2 : Bts w2 (some ⟨w1.heap.size, 0, none⟩) [47, 42] := by rw [← hw2]; exact Bts.newRow _ _ _ _ _ rfl
              clear hw2
              go_wp2_with fail
              refine (bytesHasPrefix_any _ _ _ _ _ _ (x :: r) [47, 42] HN'.out rfl _ ((hb'.below b1).below b2) s2 hc' (by unfold maxLen; omega) (by decide)).mono ?_
              rintro e w' ⟨rfl, rfl⟩
              rw [HQ.out]
              have B2 : Below w.heap.size w w2 := (hbel.trans (b1.mono hbel.size)).trans (b2.mono (Nat.le_trans hbel.size b1.size))
              have hcut := ((hb'.below b1).below b2).cutL (k := 2) (c := c') (by rw [HN'.out]; omega) (by rw [HN'.out]; exact hc')
              rw [hdr] at hcut
              clear hdr
              have hcA : c' ≠ 2 → Bts w2 (some ⟨b, off + 2, none⟩) t := fun h => by
                have := hcut
                unfold cutA at this
                rw [if_neg h] at this
                simpa [Go.WideShapes.add_plain] using this
              have hcB : c' = 2 → Bts w2 (some ⟨b, off, none⟩) t := fun h => by
                have := hcut
                unfold cutA at this
                rw [if_pos h] at this
                exact this
              have HcA := Lib.hid hcA
              have HcB := Lib.hid hcB
              clear hcut hcA hcB
              by_cases h2c : c' = 2
              · have hcut := HcB.out h2c
                have hn2 : n' = 2 := by omega
                subst h2c
                subst hn2
                have ht0 : t = [] := List.eq_nil_of_length_eq_zero (by omega)
                subst ht0
                go_wp2_with fail
                refine (starSlash_any _).mono ?_
                rintro e w3 ⟨rfl, hw3⟩
                have b3 : Below w2.heap.size w2 w3 := by rw [← hw3]; exact below_new _ _
                have s3 : Bts w3 (some ⟨w2.heap.size, 0, none⟩) [42, 47] := by rw [← hw3]; exact Bts.newRow _ _ _ _ _ rfl
                clear hw3
                go_wp2_with fail
                refine (bytesIndex_any _ _ _ _ _ _ ([] : List UInt8) [42, 47] (by omega) rfl _ (hcut.below b3) s3 (by omega) (by omega) (by omega) (by decide)).mono ?_
                rintro e w4 ⟨rfl, hd4⟩
                have b4 : Below w2.heap.size w2 w4 := b3.trans (hd4.below.mono b3.size)
                have B4 : Below w.heap.size w w4 := B2.trans (b4.mono B2.size)
                have hcut4 := hcut.below b4
                clear hd4 b3 s3 b4 hcut b1 s1 b2 s2
                cases hf : fi [42, 47] ([] : List UInt8) with
                | none =>
                  have HF := Lib.hid (blockR_no HT.out hf)
                  rw [bfi_none hf]
                  clear hf htl
                  go_wp2
                  exact bodyPost_ret (v := .slice none 0 0) (by simp [results, Try.results28, go_sem]) rfl ⟨none, 0, 0, rfl, by rw [HS.out, HF.out]; rfl, by rw [HS.out, HF.out]; exact Bts.nil_ _ _, B4⟩
                | some i => exact absurd hf (by simp [fi])
              · have hcut := HcA.out h2c
                go_wp2_with fail
                refine (starSlash_any _).mono ?_
                rintro e w3 ⟨rfl, hw3⟩
                have b3 : Below w2.heap.size w2 w3 := by rw [← hw3]; exact below_new _ _
                have s3 : Bts w3 (some ⟨w2.heap.size, 0, none⟩) [42, 47] := by rw [← hw3]; exact Bts.newRow _ _ _ _ _ rfl
                clear hw3
                go_wp2_with fail
                refine (bytesIndex_any _ _ _ _ _ _ t [42, 47] (by omega) rfl _ (hcut.below b3) s3 (by omega) (by omega) (by omega) (by decide)).mono ?_
                rintro e w4 ⟨rfl, hd4⟩
                have b4 : Below w2.heap.size w2 w4 := b3.trans (hd4.below.mono b3.size)
                have B4 : Below w.heap.size w w4 := B2.trans (b4.mono B2.size)
                have hcut4 := hcut.below b4
                clear hd4 b3 s3 b4 hcut b1 s1 b2 s2
                cases hf : fi [42, 47] t with
                | none =>
                  have HF := Lib.hid (blockR_no HT.out hf)
                  rw [bfi_none hf]
                  clear hf htl
                  go_wp2
                  exact bodyPost_ret (v := .slice none 0 0) (by simp [results, Try.results28, go_sem]) rfl ⟨none, 0, 0, rfl, by rw [HS.out, HF.out]; rfl, by rw [HS.out, HF.out]; exact Bts.nil_ _ _, B4⟩
                | some i =>
                  have HF := Lib.hid (blockR_at HT.out hf)
                  have hi2 : i + 2 ≤ t.length := HF.out.1
                  rw [bfi_some hf]
                  clear hf
                  have hcut5 := hcut4.cutL (k := i + 2) (c := c' - 2) hi2 (by omega)
                  go_wp2
                  go_roundw
                  case rel => exact ⟨_, t.drop (i + 2), _, _, rfl, by rw [List.length_drop]; omega, by omega, by omega, by omega, hcut5, B4, by rw [HS.out, HF.out.2]⟩
                  case measure => simp only [lenOf]; omega
          · have HP := Lib.hid hp
            obtain ⟨t, ht⟩ := pre_two (of_decide_eq_true hp)
            have HT := Lib.hid ht
            clear hp hx47 hsp hsp' ht
            go_wp2_with fail
            refine (slashSlash_any _).mono ?_
            rintro e w1 ⟨rfl, hw1⟩
            have b1 : Below wr.heap.size wr w1 := by rw [← hw1]; exact below_new _ _
            have s1 : Bts w1 (some ⟨wr.heap.size, 0, none⟩) [47, 47] := by rw [← hw1]; exact Bts.newRow _ _ _ _ _ rfl
            clear hw1
            go_wp2_with fail
            refine (bytesHasPrefix_any _ _ _ _ _ _ (x :: r) [47, 47] HN'.out rfl _ (hb'.below b1) s1 hc' (by unfold maxLen; omega) (by decide)).mono ?_
            rintro e w' ⟨rfl, rfl⟩
            rw [HP.out]
            have B1 : Below w.heap.size w w1 := hbel.trans (b1.mono hbel.size)
            go_wp2_with fail
            refine (newline_any _).mono ?_
            rintro e w3 ⟨rfl, hw3⟩
            have b3 : Below w1.heap.size w1 w3 := by rw [← hw3]; exact below_new _ _
            have s3 : Bts w3 (some ⟨w1.heap.size, 0, none⟩) [10] := by rw [← hw3]; exact Bts.newRow _ _ _ _ _ rfl
            clear hw3
            go_wp2_with fail
            refine (bytesIndex_any _ _ _ _ _ _ (x :: r) [10] HN'.out rfl _ ((hb'.below b1).below b3) s3 hc' hnm' hcm' (by decide)).mono ?_
            rintro e w4 ⟨rfl, hd4⟩
            have b4 : Below w1.heap.size w1 w4 := b3.trans (hd4.below.mono b3.size)
            have B4 : Below w.heap.size w w4 := B1.trans (b4.mono B1.size)
            have hb4 := (hb'.below b1).below b4
            clear hd4 b3 s3 b4 b1 s1
            cases hf : fi [10] (x :: r) with
            | none =>
              have HF := Lib.hid (lineR_no HT.out hf)
              rw [bfi_none hf]
              clear hf
              go_wp2
              exact bodyPost_ret (v := .slice none 0 0) (by simp [results, Try.results28, go_sem]) rfl ⟨none, 0, 0, rfl, by rw [HS.out, HF.out]; rfl, by rw [HS.out, HF.out]; exact Bts.nil_ _ _, B4⟩
            | some i =>
              have HF := Lib.hid (lineR_at HT.out hf)
              have hi2 : i + 1 ≤ n' := by have := HF.out.1; rw [HN'.out] at this; exact this
              rw [bfi_some hf]
              clear hf
              have hcut5 := hb4.cutL (k := i + 1) (c := c') HF.out.1 (by rw [HN'.out]; exact hc')
              go_wp2
              go_roundw
              case rel => exact ⟨_, (x :: r).drop (i + 1), _, _, rfl, by rw [List.length_drop, HN'.out], by omega, by omega, by omega, hcut5, B4, by rw [HS.out, HF.out.2]⟩
              case measure => simp only [lenOf]; omega
        · have HK := Lib.hid (skp_other (r := r) hsp' hx47)
          have e1 : ((x.toNat : Int) == 32) = false := byte_ne (sp_not hsp').1
          have e2 : ((x.toNat : Int) == 9) = false := byte_ne (sp_not hsp').2.1
          have e3 : ((x.toNat : Int) == 13) = false := byte_ne (sp_not hsp').2.2.1
          have e4 : ((x.toNat : Int) == 10) = false := byte_ne (sp_not hsp').2.2.2
          have e5 : ((x.toNat : Int) == 47) = false := byte_ne hx47
          clear hsp hsp' hx47
          go_wp2
          exact bodyPost_ret (v := .slice (some ⟨b, off, none⟩) n' c') (by simp [results, Try.results28, go_sem]) rfl ⟨(some ⟨b, off, none⟩), n', c', rfl, by rw [HS.out, HK.out]; exact HN'.out, by rw [HS.out, HK.out]; exact hb', hbel⟩

theorem zzSkip_any (A : Option Addr) (l : List UInt8) (n c : Nat) (hn : l.length = n) (w : World) (hl : Bts w A l) (hc : n ≤ c) (hnm : n ≤ 4611686018427387904) (hcm : c ≤ 9223372036854775807) :
    Calls Try.prog 23 #[.slice A n c] w (SkipPost w l) := by
  go_enter Try.func23, Try.ntmps23
  go_wp2_with fail
  refine (skip_any _ l _ _ hn _ hl hc hnm hcm).mono ?_
  rintro e w1 ⟨A1, n1, c1, rfl, h1, h2, h3⟩
  have H1 := Lib.hid h1
  clear h1
  go_wp2_with fail
  exact bodyPost_ret (v := .slice A1 n1 c1) (by simp [results, Try.results23, go_sem]) rfl ⟨A1, n1, c1, rfl, H1.out, h2, h3⟩

theorem u8_info : (Try.prog.info? 5).map (fun i => (i.zero, i.size, i.bytes)) = some (some (.int .u8 0), 1, 1) := by kernel_rfl
theorem bv_one (l : List UInt8) : ∀ u ∈ bv l, u.oneCell' = true := by
  intro u hu
  unfold bv at hu
  obtain ⟨b, _, rfl⟩ := List.mem_map.1 hu
  rfl

theorem own_empty (w : World) (t : TypeId) : (w.alloc (.cells #[] t)).ownsRow w.heap.size t 1 (.slice (some ⟨w.heap.size, 0, none⟩) 0 0) 0 [] :=
  ⟨rfl, .inr ⟨w.heap.size, 0, #[], rfl, Nat.le_refl _, heap_alloc_new w _, Nat.le_refl _, by decide, rfl, rfl⟩⟩
theorem own_bts {w : World} {base n : Nat} {e : TypeId} {v : Value} {l : List UInt8} (h : w.ownsRow base e 1 v n (bv l)) : ∃ A c, v = .slice A n c ∧ n ≤ c ∧ c ≤ maxLen ∧ Bts w A l := by
  have hl := h.1
  rw [bv_len, Nat.mul_one] at hl
  rcases h.2 with ⟨rfl, rfl⟩ | ⟨g, cap, cur, rfl, _, _, hnc, hcm, _⟩
  · exact ⟨none, 0, rfl, Nat.le_refl _, by decide, by rw [List.eq_nil_of_length_eq_zero hl]; exact Bts.nil_ _ _⟩
  · refine ⟨_, _, rfl, hnc, hcm, ?_⟩
    have := Reads.of_own h
    unfold Bts
    rw [hl]
    exact this

set_option maxHeartbeats 1000000 in
theorem implSkip_any (A : Option Addr) (l : List UInt8) (n c : Nat) (hn : l.length = n) (w : World) (hl : Bts w A l) (hnm : n ≤ 70368744177664) :
    Calls Try.prog 10 #[.slice A n c] w fun e w' => e = .returned (.string (BA (skp l))) ∧ Below w.heap.size w w' := by
  have HN := Lib.hid hn
  obtain ⟨i0, hi, hz0, hz1, hz2⟩ := info_parts u8_info
  have hown0 := own_empty w 5
  have hr : Reads (w.alloc (.cells #[] 5)) w.heap.size 1 A n (bv l) := by have := Reads.alloc hl (Nat.le_refl _) (.cells #[] 5); rw [hn] at this; exact this
  clear hn
  go_enter Try.func10, Try.ntmps10
  go_wp2_with (at_builtin; refine wpList_append_any _ rfl (.tmp 3) (.tmp 4) 26 rfl w.heap.size 5 i0 (.int .u8 0) 1 1 Try.underlying26 hi hz0 hz1 hz2 rfl (by decide) _ 0 [] rfl hown0 w.heap.size A n c (bv l) rfl hr (bv_one l) (by unfold maxLen; omega) (by omega) (by simp) ?_; intro v' w1 hown hgrow hblk; simp only [Nat.zero_add, List.nil_append] at hown; obtain ⟨A1, c1, rfl, hc1, hcm1, hb1⟩ := own_bts hown)
  have bel : Below w.heap.size w w1 := (below_new w _).grown hgrow (by simp) (fun k hk => by injection hk with hk; rw [← hk]; exact Nat.le_refl _)
  clear hown hgrow hblk hown0 hr
  go_wp2_with fail
  refine (zzSkip_any _ l _ _ HN.out _ hb1 hc1 (by omega) (by unfold maxLen at hcm1; omega)).mono ?_
  rintro e w2 ⟨A2, n2, c2, rfl, h1, h2, h3⟩
  have bel2 : Below w.heap.size w w2 := bel.trans (h3.mono bel.size)
  have hcv := h2.conv (P := Try.prog) (src := 26) (dst := 9) Try.underlying26 Try.underlying5 Try.underlying9 c2
  rw [h1] at hcv
  clear h1 h2 h3 hb1
  go_wp2
  go_ret
  exact ⟨rfl, bel2⟩

end Go.Proofs.Ytdapcnhgbmicoaa
