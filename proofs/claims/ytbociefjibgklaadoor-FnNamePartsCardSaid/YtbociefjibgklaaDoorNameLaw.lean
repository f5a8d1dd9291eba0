/-
  NameFits of the thin package; the law FnNameFits.
-/
import Derived.Test.YtbociefjibgklaaDoorTagLaw
import Derived.Test.YtbociefjibgklaaDoorNameC
namespace Go.Proofs.YtbociefjibgklaaDoor
open Go.RowKit
set_option linter.unusedVariables false
set_option linter.unusedSimpArgs false

theorem zzGood_any (S : Stg) (s : ByteArray) (q : Nat) (w : World) (hs : s.size ≤ 70368744177664 / 16) (hq : CtxAt S w q) (hm : AllIs w)
    (ho : S.os.size ≤ maxLen) (l1 : S.s1.length ≤ maxLen) (l2 : S.s2.length ≤ maxLen) (l3 : S.s3.length ≤ maxLen) :
    Calls Tryd.prog 27 #[.pointer (some ⟨q, 0, none⟩), .string s] w (FitPost S s w) := by
  go_enter Tryd.func27, Tryd.ntmps27
  go_wp2_with fail
  refine (goodOS_any S s q _ hs hq hm ho l1 l2 l3).mono ?_; rintro e w' ⟨rfl, hd⟩
  go_wp2_with fail
  go_ret
  exact ⟨rfl, hd⟩

theorem nameFits_any (S : Stg) (s : ByteArray) (w : World) (hs : s.size ≤ 70368744177664 / 16) (hS : S.Ok w) (hm : AllIs w) (ho : S.os.size ≤ maxLen) :
    Calls Tryd.prog 15 #[S.val, .string s] w (FitPost S s w) := by
  have B1 := (Below.refl w.heap.size w).alloc (Nat.le_refl _) (.cells S.cells 24)
  have hS1 := hS.below B1
  have hm1 := hm.below B1
  have l1 : S.s1.length ≤ maxLen := by have := hS.l1; unfold maxLen; omega
  have l2 : S.s2.length ≤ maxLen := by have := hS.l2; unfold maxLen; omega
  have l3 : S.s3.length ≤ maxLen := by have := hS.l3; unfold maxLen; omega
  unfold Stg.val Stg.cells
  go_enter Tryd.func15, Tryd.ntmps15
  go_wp2_with fail
  refine (contextOf_any S _ hS1).mono ?_; rintro e w2 ⟨q, rfl, hq, hb2⟩
  have hm2 := hm1.below hb2
  have B2 : Below w.heap.size w w2 := B1.trans (hb2.mono (by simp))
  clear hm hm1 hS hS1 B1 hb2
  go_wp2_with fail
  refine (zzGood_any S s q _ hs hq hm2 ho l1 l2 l3).mono ?_; rintro e w3 ⟨rfl, hd⟩
  have B3 : Below w.heap.size w w3 := B2.trans (hd.mono B2.size)
  clear hd
  go_wp2_with fail
  go_ret
  exact ⟨rfl, B3⟩

/-- What a law's walk knows of memory, the three maps among it. -/
structure EnvA (w0 : World) (S : Stg) (H : Nat) (A : Option Addr) (tags : List ByteArray) (w : World) : Prop where
  env : Env w0 S H A tags w
  all : AllIs w
section
variable {w0 : World} {S : Stg} {H : Nat} {A : Option Addr} {tags : List ByteArray} {w w' : World}
theorem EnvA.on (h : EnvA w0 S H A tags w) (hb : Below w.heap.size w w') : EnvA w0 S H A tags w' := ⟨h.env.on hb, h.all.below hb⟩
theorem EnvA.drewN (h : EnvA w0 S H A tags w) (n : Nat) : EnvA w0 S H A tags (w.drewN n) := h.on (below_drewN (Below.refl _ _) n)
end

theorem implied_len (ws : List (List UInt8)) : (implied ws).length ≤ 2 := by
  unfold implied
  simp only
  split
  · simp
  · split
    · simp
    · split <;> simp
theorem fits_go (S : Stg) : fitsN S [97, 46, 103, 111] = true := by
  have h : implied (wordsOf [97, 46, 103, 111]) = [] := by decide +kernel
  unfold fitsN
  rw [h]; rfl
theorem take_all {ts : List ByteArray} {k : Nat} (f : ByteArray → Bool) (h : k < ts.length) : (ts.take (k + 1)).all f = ((ts.take k).all f && f ts[k]) := by
  rw [List.take_succ_eq_append_getElem h, List.all_append]; simp
theorem all_fits {S : Stg} {name : List UInt8} {ts : List ByteArray} (h : (ts.map fun t => t.data.toList) = implied (wordsOf name)) : ts.all (met unixKeys S) = fitsN S name := by
  unfold fitsN
  rw [← h, List.all_map]
  congr 1

set_option maxRecDepth 100000 in
set_option maxHeartbeats 8000000 in
theorem nameFitsLaw (S : Stg) (A : Option Addr) (tags : List ByteArray) (cap : Nat) (w : World) (hS : S.Rd w) (hs : Strs w A tags) (hl : tags.length ≤ maxLen) (hm : AllIs w) :
    Calls Tryd.prog 5 #[S.val, .slice A tags.length cap] w (TruePost w) := by
  have B1 := (Below.refl w.heap.size w).alloc (Nat.le_refl _) (.cells S.cells 24)
  have hE1 : EnvA w S w.heap.size A tags (w.alloc (.cells S.cells 24)) := ⟨⟨B1, hm.unix.below B1, hS.below B1, BoxAt.new S w, hs.below B1⟩, hm.below B1⟩
  clear B1 hm hS hs
  have HGO := Lib.hid (fits_go S)
  cases hf : S.fits
  · have HF := Lib.hid hf; clear hf
    unfold Stg.val Stg.cells at *
    go_enter Tryd.func5, Tryd.ntmps5
    go_wp2_with fail
    refine (fits1_any S _ hE1.env.rd).mono ?_; rintro e w2 ⟨rfl, hb⟩; rw [HF.out]
    have hE2 := hE1.on hb
    clear hb
    go_wp2_with fail
    go_ret
    exact ⟨rfl, hE2.env.below⟩
  · have HF := Lib.hid hf; clear hf
    unfold Stg.val Stg.cells at *
    go_enter Tryd.func5, Tryd.ntmps5
    go_wp2_with fail
    refine (fits1_any S _ hE1.env.rd).mono ?_; rintro e w2 ⟨rfl, hb⟩; rw [HF.out]
    have hE2 := hE1.on hb
    clear hb hE1
    cases hf2 : fits2 tags
    · have HF2 := Lib.hid hf2; clear hf2
      go_wp2_with fail
      refine (fits2_any _ tags _ _ hE2.env.strs hl).mono ?_; rintro e w3 ⟨rfl, rfl⟩; rw [HF2.out]
      go_wp2_with fail
      go_ret
      exact ⟨rfl, hE2.env.below⟩
    · have HF3 : Hid (∀ s ∈ tags, s.size ≤ 2147483647) := Lib.hid (fits2_len hf2).2
      have HF2 := Lib.hid hf2; clear hf2
      go_wp2_with fail
      refine (fits2_any _ tags _ _ hE2.env.strs hl).mono ?_; rintro e w3 ⟨rfl, rfl⟩; rw [HF2.out]
      unfold maxLen at hl
      go_wp2_with fail
      go_loopw [20] (fun i wr => ∃ k : Nat, k ≤ tags.length ∧ i = .int .i64 k ∧ EnvA w S w.heap.size A tags wr) (fun i _ => tags.length - (intOf i).toNat)
      case atStart => exact ⟨0, Nat.zero_le _, rfl, hE2⟩
      case round =>
        obtain ⟨k, hk, rfl, hE⟩ := hrel
        clear hE2
        obtain ⟨wo, rfl⟩ : ∃ wo : World, wo = wr := ⟨_, rfl⟩
        by_cases hlt : k < tags.length
        · obtain ⟨b, off, rfl, hb, hc⟩ := hE.env.strs.2 (by omega)
          have hck := hc k hlt
          have hsz : tags[k].size ≤ 2147483647 := HF3.out _ (List.getElem_mem hlt)
          clear hc
          generalize hx : tags[k] = x at *
          clear hx
          go_wp2_with fail
          refine (implied_any x (by omega) _).mono ?_; rintro e w4 ⟨hbl, A2, c2, ts, rfl, hts, hst⟩
          have hE4 := hE.on hbl
          have hle : ts.length ≤ 2 := by
            have e := congrArg List.length hts
            rw [List.length_map] at e
            rw [e]; exact implied_len _
          have HW := Lib.hid (all_fits (S := S) hts)
          clear hts hbl hck hb hE
          go_wp2_with fail
          go_loopw [27, 7] (fun i q wr => ∃ k : Nat, k ≤ ts.length ∧ i = .int .i64 k ∧ q = .bool ((ts.take k).all (met unixKeys S)) ∧ EnvA w S w.heap.size (some ⟨b, off, none⟩) tags wr ∧ Strs wr A2 ts) (fun i _ _ => ts.length - (intOf i).toNat)
          case atStart => exact ⟨0, Nat.zero_le _, rfl, rfl, hE4, hst⟩
          case round =>
            obtain ⟨j, hj, rfl, rfl, hEj, hsj⟩ := hrel
            clear hE4 hst
            by_cases hjt : j < ts.length
            · obtain ⟨b2, off2, rfl, hb2, hc2⟩ := hsj.2 (by omega)
              have hcj := hc2 j hjt
              have HTA := Lib.hid (take_all (met unixKeys S) hjt)
              clear hc2 hb2
              generalize hy : ts[j] = y at *
              clear hy
              cases hall : (ts.take j).all (met unixKeys S)
              · have HALL := Lib.hid hall; clear hall
                go_wp2_with fail
                go_roundw
                case rel => exact ⟨j + 1, by omega, by go_num, by rw [HTA.out, HALL.out, Bool.false_and], hEj, hsj⟩
                case measure => simp [intOf]; omega
              · have HALL := Lib.hid hall; clear hall
                obtain ⟨_, c0, c1, c2, c3, c4, c5, c6⟩ := hEj.env.box
                go_wp2_with fail
                refine (met_any S y _ hEj.env.rd).mono ?_; rintro e w6 ⟨rfl, hb6⟩
                have hE6 := hEj.on hb6
                have hs6 := hsj.below hb6
                clear hb6 hEj hsj c0 c1 c2 c3 c4 c5 c6 hcj
                go_wp2_with fail
                go_roundw
                case rel => exact ⟨j + 1, by omega, by go_num, by rw [HTA.out, HALL.out, Bool.true_and], hE6, hs6⟩
                case measure => simp [intOf]; omega
            · obtain rfl : j = ts.length := by omega
              have HW2 : Hid ((ts.take ts.length).all (met unixKeys S) = fitsN S x.data.toList) := Lib.hid (by rw [List.take_length]; exact HW.out)
              rw [HW2.out]
              clear HW HW2 hsj
              go_wp2_with fail
              refine (hasOneDot_any x (by omega) _).mono ?_; rintro e w6 ⟨rfl, hb6⟩
              have hE6 := hEj.on hb6
              clear hb6 hEj
              cases hod : oneDot x
              · clear hod
                go_wp2_with fail
                go_roundw
                case rel => exact ⟨k + 1, by omega, by go_num, hE6⟩
                case measure => simp [intOf]; omega
              · clear hod
                obtain ⟨_, c0, c1, c2, c3, c4, c5, c6⟩ := hE6.env.box
                have hok := hE6.env.rd.ok HF.out
                have hos := hE6.env.rd.mo
                go_wp2_with fail
                refine (nameFits_any S x _ (by omega) hok hE6.all hos).mono ?_; rintro e w7 ⟨rfl, hb7⟩
                have hE7 := hE6.on hb7
                clear hb7 hE6 c0 c1 c2 c3 c4 c5 c6 hok hos
                cases hv : fitsN S x.data.toList
                all_goals
                  clear hv
                  go_wp2_with fail
                  go_roundw
                  case rel => exact ⟨k + 1, by omega, by go_num, hE7⟩
                  case measure => simp [intOf]; omega
        · obtain ⟨_, c0, c1, c2, c3, c4, c5, c6⟩ := hE.env.box
          have hok := hE.env.rd.ok HF.out
          have hos := hE.env.rd.mo
          go_wp2_with fail
          refine (nameFits_any S ⟨#[97, 46, 103, 111]⟩ _ (by decide) hok hE.all hos).mono ?_; rintro e w7 ⟨rfl, hb7⟩
          have hE7 := hE.on hb7
          clear hb7 hE c0 c1 c2 c3 c4 c5 c6 hok hos
          go_wp2_with fail
          go_ret
          exact ⟨ret_bool HGO.out, hE7.env.below⟩

end Go.Proofs.YtbociefjibgklaaDoor
