/-
  The plain law of names; what Implied returns.
-/
import Derived.Test.YtbociefjibgklaaDoorNameA
namespace Go.Proofs.YtbociefjibgklaaDoor
open Go.RowKit
set_option linter.unusedVariables false
set_option linter.unusedSimpArgs false

def testL : List UInt8 := [116, 101, 115, 116]
def dropT (ws : List (List UInt8)) : List (List UInt8) := if 1 < ws.length ∧ ws.getD (ws.length - 1) [] = testL then ws.take (ws.length - 1) else ws
def stem (name : List UInt8) : List UInt8 := (spl 46 name).headD []
def wordsOf (name : List UInt8) : List (List UInt8) := dropT (spl 95 (stem name))
def implied (ws : List (List UInt8)) : List (List UInt8) :=
  let last := ws.getD (ws.length - 1) []
  let prev := ws.getD (ws.length - 2) []
  if ws.length < 2 then []
  else if (decide (2 < ws.length) && arKeys.contains last && osKeys.contains prev) = true then [prev, last]
  else if (osKeys.contains last || arKeys.contains last) = true then [last]
  else []

theorem words_no {name : List UInt8} {ss : List ByteArray} {m : Nat} {y : ByteArray} (hp : (ss.map fun t => t.data.toList) = spl 95 (stem name)) (hl : ss.length = m + 1) (hy : ss[m]? = some y) (h : m = 0 ∨ (y.toList == [116, 101, 115, 116]) = false) :
    (ss.map fun t => t.data.toList) = wordsOf name := by
  unfold wordsOf dropT
  rw [← hp, List.length_map, hl, Nat.add_sub_cancel]
  rw [if_neg]
  rintro ⟨h1, h2⟩
  rw [List.getD_eq_getElem?_getD, List.getElem?_map, hy] at h2
  rcases h with rfl | h
  · omega
  · have h2' : y.data.toList = testL := h2
    rw [Lib.toList_data, h2'] at h
    exact absurd h (by decide)
theorem words_yes {name : List UInt8} {ss : List ByteArray} {m : Nat} {y : ByteArray} (hp : (ss.map fun t => t.data.toList) = spl 95 (stem name)) (hl : ss.length = m + 1) (hy : ss[m]? = some y) (h0 : 0 < m) (h : (y.toList == [116, 101, 115, 116]) = true) :
    ((ss.take m).map fun t => t.data.toList) = wordsOf name := by
  unfold wordsOf dropT
  rw [← hp, List.length_map, hl, Nat.add_sub_cancel]
  rw [if_pos, List.map_take]
  refine ⟨by omega, ?_⟩
  rw [List.getD_eq_getElem?_getD, List.getElem?_map, hy]
  show y.data.toList = testL
  rw [← Lib.toList_data]
  exact beq_iff_eq.1 h
theorem implied_pair {ws : List (List UInt8)} {i : Nat} (hn : ws.length = i + 1 + 1) (hi : 0 < i) (ha : arKeys.contains (ws.getD (i + 1) []) = true) (ho : osKeys.contains (ws.getD i []) = true) : implied ws = [ws.getD i [], ws.getD (i + 1) []] := by
  unfold implied
  simp only [hn, Nat.add_sub_cancel, show i + 1 + 1 - 2 = i by omega]
  rw [if_neg (by omega), if_pos]
  rw [ha, ho]; simp; omega
theorem implied_one {ws : List (List UInt8)} {i : Nat} (hn : ws.length = i + 1 + 1) (hf : (decide (0 < i) && arKeys.contains (ws.getD (i + 1) []) && osKeys.contains (ws.getD i [])) = false) (h : (osKeys.contains (ws.getD (i + 1) []) || arKeys.contains (ws.getD (i + 1) [])) = true) : implied ws = [ws.getD (i + 1) []] := by
  unfold implied
  simp only [hn, Nat.add_sub_cancel, show i + 1 + 1 - 2 = i by omega, show (2 < i + 1 + 1) = (0 < i) by simp]
  rw [if_neg (by omega), if_neg (by rw [hf]; simp), if_pos h]
theorem implied_none {ws : List (List UInt8)} {i : Nat} (hn : ws.length = i + 1 + 1) (hf : (decide (0 < i) && arKeys.contains (ws.getD (i + 1) []) && osKeys.contains (ws.getD i [])) = false) (h : (osKeys.contains (ws.getD (i + 1) []) || arKeys.contains (ws.getD (i + 1) [])) = false) : implied ws = [] := by
  unfold implied
  simp only [hn, Nat.add_sub_cancel, show i + 1 + 1 - 2 = i by omega, show (2 < i + 1 + 1) = (0 < i) by simp]
  rw [if_neg (by omega), if_neg (by rw [hf]; simp), if_neg (by rw [h]; simp)]
theorem strs_none (w : World) (A : Option Addr) : Strs w A [] := ⟨(fun s hs => nomatch hs), (fun h => absurd h (by simp))⟩

def ImpliedPost (name : ByteArray) (w : World) (e : Ending) (w' : World) : Prop :=
  Below w.heap.size w w' ∧ ∃ (A : Option Addr) (c : Nat) (ts : List ByteArray), e = .returned (.slice A ts.length c) ∧ (ts.map fun t => t.data.toList) = implied (wordsOf name.data.toList) ∧ Strs w' A ts

set_option maxHeartbeats 4000000 in
theorem implied_any (s : ByteArray) (hs : s.size ≤ 70368744177664 / 16) (w : World) :
    Calls Tryd.prog 13 #[.string s] w (ImpliedPost s w) := by
  go_enter Tryd.func13, Tryd.ntmps13
  go_wp2_with fail
  refine (split_any s 46 46 rfl hs _).mono ?_; rintro e w2 ⟨g, cap, ss, rfl, hp, how, hbl⟩
  have hne : 0 < ss.length := by
    have e := congrArg List.length hp
    rw [List.length_map] at e
    have := spl_ne 46 s.data.toList
    have h1 : 0 < (spl 46 s.data.toList).length := List.length_pos_iff.2 this
    omega
  have hsz : ∀ x ∈ ss, x.size ≤ s.size := by
    intro x hx
    have hm : x.data.toList ∈ spl 46 s.data.toList := by rw [← hp]; exact List.mem_map.2 ⟨x, hx, rfl⟩
    have := spl_size _ hm
    rw [size_list x, size_list s]; exact this
  have hst := own_strs how (fun x hx => by have := hsz x hx; unfold maxLen; omega)
  obtain ⟨b, off, hA, hb, hc⟩ := hst.2 hne
  have hc0 := hc 0 hne
  injection hA with hA
  injection hA with hA1 hA2
  subst hA1 hA2
  have hx0 : ss[0].size ≤ s.size := hsz _ (List.getElem_mem hne)
  have HX : Hid (ss[0].data.toList = stem s.data.toList) := Lib.hid <| by
    unfold stem
    rw [← hp]
    cases ss with
    | nil => simp at hne
    | cons a r => rfl
  clear hc hst hsz hp how hb
  simp only [Nat.add_zero] at hc0
  generalize ss[0] = x at *
  go_wp2_with fail
  refine (split_any x 95 95 rfl (by omega) _).mono ?_; rintro e w3 ⟨g2, cap2, ss2, rfl, hp2, how2, hbl2⟩
  have hne2 : 0 < ss2.length := by
    have e := congrArg List.length hp2
    rw [List.length_map] at e
    have h1 : 0 < (spl 95 x.data.toList).length := List.length_pos_iff.2 (spl_ne 95 x.data.toList)
    omega
  have hlen2 : ss2.length ≤ s.size + 1 := by
    have e := congrArg List.length hp2
    rw [List.length_map] at e
    have := spl_len 95 x.data.toList
    rw [← size_list] at this
    omega
  have hsz2 : ∀ y ∈ ss2, y.size ≤ maxLen := by
    intro y hy
    have hm : y.data.toList ∈ spl 95 x.data.toList := by rw [← hp2]; exact List.mem_map.2 ⟨y, hy, rfl⟩
    have := spl_size _ hm
    rw [← size_list, ← size_list] at this
    unfold maxLen; omega
  have hst2 := own_strs how2 hsz2
  obtain ⟨g', cap', hv, hcap, hcm, _, hg⟩ := own_form how2 hne2
  simp only [Value.slice.injEq, Option.some.injEq, Addr.mk.injEq] at hv
  obtain ⟨⟨rfl, -, -⟩, -, rfl⟩ := hv
  unfold maxLen at hcm
  have hbel : Below w.heap.size w w3 := hbl.trans (hbl2.mono hbl.size)
  have HP : Hid (ss2.map (fun t => t.data.toList) = spl 95 (stem s.data.toList)) := Lib.hid <| by rw [hp2, HX.out]
  clear hbl hbl2 how2 hp2 HX hc0 hx0 hne
  -- the words
  obtain ⟨m, hm⟩ : ∃ m, ss2.length = m + 1 := ⟨ss2.length - 1, by omega⟩
  obtain ⟨_, _, hA, _, hc⟩ := hst2.2 hne2
  injection hA with hA
  injection hA with hA1 hA2
  subst hA1 hA2
  obtain ⟨y, hy, hcl⟩ : ∃ y, ss2[m]? = some y ∧ w3.cell? ⟨g2, m, none⟩ = some (.string y) := ⟨ss2[m], List.getElem?_eq_getElem _, by simpa only [Nat.zero_add] using hc m (by omega)⟩
  have HM := Lib.hid hm
  rw [hm]
  have hm43 : m ≤ 4398046511104 := by omega
  have hmc : m + 1 ≤ cap2 := by omega
  have HY := Lib.hid hy
  clear hy hm hc hcap hlen2 hne2
  have word (ws : List ByteArray) (j : Nat) (hstw : Strs w3 (some ⟨g2, 0, none⟩) ws) (hl : ws.length = j + 1) (k : Nat) (hk : k ≤ j) : ∃ z, ws[k]? = some z ∧ w3.cell? ⟨g2, k, none⟩ = some (.string z) := by
    obtain ⟨_, _, hA, _, hc⟩ := hstw.2 (by omega)
    injection hA with hA
    injection hA with hA1 hA2
    subst hA1 hA2
    exact ⟨ws[k]'(by omega), List.getElem?_eq_getElem _, by simpa only [Nat.zero_add] using hc k (by omega)⟩
  by_cases h1 : 0 < m
  · cases ht : (y.toList == [116, 101, 115, 116])
    · have HW0 := Lib.hid (words_no HP.out HM.out HY.out (.inr ht))
      obtain ⟨i, rfl⟩ : ∃ i, m = i + 1 := ⟨m - 1, by omega⟩
      go_upto_region 4 with fail
      clear hcl
      obtain ⟨ws, hstw, HL, HW⟩ : ∃ ws : List ByteArray, Strs w3 (some ⟨g2, 0, none⟩) ws ∧ Hid (ws.length = i + 1 + 1) ∧ Hid (ws.map (fun t => t.data.toList) = wordsOf s.data.toList) := ⟨ss2, hst2, HM, HW0⟩
      have HWD := Lib.hid (word ws (i + 1) hstw HL.out)
      obtain ⟨z, hz, hcz⟩ := HWD.out (i + 1) (Nat.le_refl _)
      have HZ : Hid ((wordsOf s.data.toList).getD (i + 1) [] = z.data.toList) := Lib.hid <| by rw [← HW.out, List.getD_eq_getElem?_getD, List.getElem?_map, hz]; rfl
      have HN : Hid ((wordsOf s.data.toList).length = i + 1 + 1) := Lib.hid <| by rw [← HW.out, List.length_map, HL.out]
      have zl : z.size ≤ maxLen := hstw.1 z (List.mem_of_getElem? hz)
      clear hz
      obtain ⟨v, hv, hcv⟩ := HWD.out i (by omega)
      have HV : Hid ((wordsOf s.data.toList).getD i [] = v.data.toList) := Lib.hid <| by rw [← HW.out, List.getD_eq_getElem?_getD, List.getElem?_map, hv]; rfl
      have vl : v.size ≤ maxLen := hstw.1 v (List.mem_of_getElem? hv)
      clear hv
      rcases Nat.eq_zero_or_pos i with rfl | hi
      · go_wp2_with fail
        refine (isSystem_any z _).mono ?_; rintro e w8 ⟨rfl, b8⟩
        have B8 : Below w.heap.size w w8 := hbel.trans (b8.mono hbel.size)
        clear b8
        cases ho : osKeys.contains z.data.toList
        · have HO := Lib.hid ho; clear ho
          go_wp2_with fail
          refine (isMachine_any z _).mono ?_; rintro e w9 ⟨rfl, b9⟩
          have B9 : Below w.heap.size w w9 := B8.trans (b9.mono B8.size)
          clear b9
          cases ha : arKeys.contains z.data.toList
          · have HA := Lib.hid ha; clear ha
            go_wp2_with fail
            exact bodyPost_ret (v := .slice (some ⟨w9.heap.size, 0, none⟩) 0 0) (by simp [results, Tryd.results13, go_sem]) rfl ⟨B9.alloc B9.size _, some ⟨w9.heap.size, 0, none⟩, 0, [], rfl, by rw [implied_none HN.out (by simp) (by rw [HZ.out, HO.out, HA.out]; rfl)]; rfl, strs_none _ _⟩
          · have HA := Lib.hid ha; clear ha
            go_wp2_with fail
            exact bodyPost_ret (v := .slice (some ⟨w9.heap.size, 0, none⟩) 1 1) (by simp [results, Tryd.results13, go_sem]) rfl ⟨B9.alloc B9.size _, some ⟨w9.heap.size, 0, none⟩, 1, [z], rfl, by rw [implied_one HN.out (by simp) (by rw [HZ.out, HO.out, HA.out]; rfl), HZ.out]; rfl, Strs.newRow w9 _ [z] _ _ rfl (by intro t ht; rw [List.mem_singleton] at ht; subst ht; exact zl)⟩
        · have HO := Lib.hid ho; clear ho
          go_wp2_with fail
          exact bodyPost_ret (v := .slice (some ⟨w8.heap.size, 0, none⟩) 1 1) (by simp [results, Tryd.results13, go_sem]) rfl ⟨B8.alloc B8.size _, some ⟨w8.heap.size, 0, none⟩, 1, [z], rfl, by rw [implied_one HN.out (by simp) (by rw [HZ.out, HO.out]; rfl), HZ.out]; rfl, Strs.newRow w8 _ [z] _ _ rfl (by intro t ht; rw [List.mem_singleton] at ht; subst ht; exact zl)⟩
      · have hb3 : Below w3.heap.size w3 w3 := Below.refl _ _
        have hlt3 := World.block_lt_of_cell? w3 _ hcv
        go_wp2_with fail
        refine (isMachine_any z _).mono ?_; rintro e w4 ⟨rfl, b4⟩
        have hcv4 := (b4.cell (p := ⟨g2, i, none⟩) hlt3).trans hcv
        have B4 : Below w.heap.size w w4 := hbel.trans (b4.mono hbel.size)
        clear b4 hb3
        cases ha1 : arKeys.contains z.data.toList
        · have HA1 := Lib.hid ha1; clear ha1
          go_wp2_with fail
          refine (isSystem_any z _).mono ?_; rintro e w8 ⟨rfl, b8⟩
          have B8 : Below w.heap.size w w8 := B4.trans (b8.mono B4.size)
          clear b8
          cases ho : osKeys.contains z.data.toList
          · have HO := Lib.hid ho; clear ho
            go_wp2_with fail
            refine (isMachine_any z _).mono ?_; rintro e w9 ⟨rfl, b9⟩
            have B9 : Below w.heap.size w w9 := B8.trans (b9.mono B8.size)
            clear b9
            cases ha : arKeys.contains z.data.toList
            · have HA := Lib.hid ha; clear ha
              go_wp2_with fail
              exact bodyPost_ret (v := .slice (some ⟨w9.heap.size, 0, none⟩) 0 0) (by simp [results, Tryd.results13, go_sem]) rfl ⟨B9.alloc B9.size _, some ⟨w9.heap.size, 0, none⟩, 0, [], rfl, by rw [implied_none HN.out (by rw [HZ.out, HA1.out]; simp) (by rw [HZ.out, HO.out, HA.out]; rfl)]; rfl, strs_none _ _⟩
            · have HA := Lib.hid ha; clear ha
              go_wp2_with fail
              exact bodyPost_ret (v := .slice (some ⟨w9.heap.size, 0, none⟩) 1 1) (by simp [results, Tryd.results13, go_sem]) rfl ⟨B9.alloc B9.size _, some ⟨w9.heap.size, 0, none⟩, 1, [z], rfl, by rw [implied_one HN.out (by rw [HZ.out, HA1.out]; simp) (by rw [HZ.out, HO.out, HA.out]; rfl), HZ.out]; rfl, Strs.newRow w9 _ [z] _ _ rfl (by intro t ht; rw [List.mem_singleton] at ht; subst ht; exact zl)⟩
          · have HO := Lib.hid ho; clear ho
            go_wp2_with fail
            exact bodyPost_ret (v := .slice (some ⟨w8.heap.size, 0, none⟩) 1 1) (by simp [results, Tryd.results13, go_sem]) rfl ⟨B8.alloc B8.size _, some ⟨w8.heap.size, 0, none⟩, 1, [z], rfl, by rw [implied_one HN.out (by rw [HZ.out, HA1.out]; simp) (by rw [HZ.out, HO.out]; rfl), HZ.out]; rfl, Strs.newRow w8 _ [z] _ _ rfl (by intro t ht; rw [List.mem_singleton] at ht; subst ht; exact zl)⟩
        · have HA1 := Lib.hid ha1; clear ha1
          go_wp2_with fail
          refine (isSystem_any v _).mono ?_; rintro e w5 ⟨rfl, b5⟩
          have hcv5 := (b5.cell (p := ⟨g2, i, none⟩) (World.block_lt_of_cell? w4 _ hcv4)).trans hcv4
          have B5 : Below w.heap.size w w5 := B4.trans (b5.mono B4.size)
          clear b5
          cases ho1 : osKeys.contains v.data.toList
          · have HO1 := Lib.hid ho1; clear ho1
            go_wp2_with fail
            refine (isSystem_any z _).mono ?_; rintro e w8 ⟨rfl, b8⟩
            have B8 : Below w.heap.size w w8 := B5.trans (b8.mono B5.size)
            clear b8
            cases ho : osKeys.contains z.data.toList
            · have HO := Lib.hid ho; clear ho
              go_wp2_with fail
              refine (isMachine_any z _).mono ?_; rintro e w9 ⟨rfl, b9⟩
              have B9 : Below w.heap.size w w9 := B8.trans (b9.mono B8.size)
              clear b9
              cases ha : arKeys.contains z.data.toList
              · have HA := Lib.hid ha; clear ha
                go_wp2_with fail
                exact bodyPost_ret (v := .slice (some ⟨w9.heap.size, 0, none⟩) 0 0) (by simp [results, Tryd.results13, go_sem]) rfl ⟨B9.alloc B9.size _, some ⟨w9.heap.size, 0, none⟩, 0, [], rfl, by rw [implied_none HN.out (by rw [HV.out, HO1.out]; simp) (by rw [HZ.out, HO.out, HA.out]; rfl)]; rfl, strs_none _ _⟩
              · have HA := Lib.hid ha; clear ha
                go_wp2_with fail
                exact bodyPost_ret (v := .slice (some ⟨w9.heap.size, 0, none⟩) 1 1) (by simp [results, Tryd.results13, go_sem]) rfl ⟨B9.alloc B9.size _, some ⟨w9.heap.size, 0, none⟩, 1, [z], rfl, by rw [implied_one HN.out (by rw [HV.out, HO1.out]; simp) (by rw [HZ.out, HO.out, HA.out]; rfl), HZ.out]; rfl, Strs.newRow w9 _ [z] _ _ rfl (by intro t ht; rw [List.mem_singleton] at ht; subst ht; exact zl)⟩
            · have HO := Lib.hid ho; clear ho
              go_wp2_with fail
              exact bodyPost_ret (v := .slice (some ⟨w8.heap.size, 0, none⟩) 1 1) (by simp [results, Tryd.results13, go_sem]) rfl ⟨B8.alloc B8.size _, some ⟨w8.heap.size, 0, none⟩, 1, [z], rfl, by rw [implied_one HN.out (by rw [HV.out, HO1.out]; simp) (by rw [HZ.out, HO.out]; rfl), HZ.out]; rfl, Strs.newRow w8 _ [z] _ _ rfl (by intro t ht; rw [List.mem_singleton] at ht; subst ht; exact zl)⟩
          · have HO1 := Lib.hid ho1; clear ho1
            go_wp2_with fail
            exact bodyPost_ret (v := .slice (some ⟨w5.heap.size, 0, none⟩) 2 2) (by simp [results, Tryd.results13, go_sem]) rfl ⟨B5.alloc B5.size _, some ⟨w5.heap.size, 0, none⟩, 2, [v, z], rfl, by rw [implied_pair HN.out hi (by rw [HZ.out, HA1.out]) (by rw [HV.out, HO1.out]), HZ.out, HV.out]; rfl, Strs.newRow w5 _ [v, z] _ _ rfl (by intro t ht; rcases List.mem_cons.1 ht with rfl | ht; exact vl; rw [List.mem_singleton] at ht; subst ht; exact zl)⟩
    · have HW0 := Lib.hid (words_yes HP.out HM.out HY.out h1 ht)
      obtain ⟨j, rfl⟩ : ∃ j, m = j + 1 := ⟨m - 1, by omega⟩
      have HL0 : Hid ((ss2.take (j + 1)).length = j + 1) := Lib.hid <| by rw [List.length_take, HM.out]; omega
      go_upto_region 4 with fail
      clear hcl
      obtain ⟨ws, hstw, HL, HW⟩ : ∃ ws : List ByteArray, Strs w3 (some ⟨g2, 0, none⟩) ws ∧ Hid (ws.length = j + 1) ∧ Hid (ws.map (fun t => t.data.toList) = wordsOf s.data.toList) := ⟨_, hst2.takeN (j + 1), HL0, HW0⟩
      rcases Nat.eq_zero_or_pos j with rfl | hj
      · skip
        have HWD := Lib.hid (word ws (0) hstw HL.out)
        obtain ⟨z, hz, hcz⟩ := HWD.out (0) (Nat.le_refl _)
        have HZ : Hid ((wordsOf s.data.toList).getD (0) [] = z.data.toList) := Lib.hid <| by rw [← HW.out, List.getD_eq_getElem?_getD, List.getElem?_map, hz]; rfl
        have HN : Hid ((wordsOf s.data.toList).length = 0 + 1) := Lib.hid <| by rw [← HW.out, List.length_map, HL.out]
        have zl : z.size ≤ maxLen := hstw.1 z (List.mem_of_getElem? hz)
        clear hz
        go_wp2_with fail
        exact bodyPost_ret (v := .slice (some ⟨w3.heap.size, 0, none⟩) 0 0) (by simp [results, Tryd.results13, go_sem]) rfl ⟨hbel.alloc hbel.size _, some ⟨w3.heap.size, 0, none⟩, 0, [], rfl, by unfold implied; rw [HN.out]; rfl, strs_none _ _⟩
      · obtain ⟨i, rfl⟩ : ∃ i, j = i + 1 := ⟨j - 1, by omega⟩
        have HWD := Lib.hid (word ws (i + 1) hstw HL.out)
        obtain ⟨z, hz, hcz⟩ := HWD.out (i + 1) (Nat.le_refl _)
        have HZ : Hid ((wordsOf s.data.toList).getD (i + 1) [] = z.data.toList) := Lib.hid <| by rw [← HW.out, List.getD_eq_getElem?_getD, List.getElem?_map, hz]; rfl
        have HN : Hid ((wordsOf s.data.toList).length = i + 1 + 1) := Lib.hid <| by rw [← HW.out, List.length_map, HL.out]
        have zl : z.size ≤ maxLen := hstw.1 z (List.mem_of_getElem? hz)
        clear hz
        obtain ⟨v, hv, hcv⟩ := HWD.out i (by omega)
        have HV : Hid ((wordsOf s.data.toList).getD i [] = v.data.toList) := Lib.hid <| by rw [← HW.out, List.getD_eq_getElem?_getD, List.getElem?_map, hv]; rfl
        have vl : v.size ≤ maxLen := hstw.1 v (List.mem_of_getElem? hv)
        clear hv
        rcases Nat.eq_zero_or_pos i with rfl | hi
        · go_wp2_with fail
          refine (isSystem_any z _).mono ?_; rintro e w8 ⟨rfl, b8⟩
          have B8 : Below w.heap.size w w8 := hbel.trans (b8.mono hbel.size)
          clear b8
          cases ho : osKeys.contains z.data.toList
          · have HO := Lib.hid ho; clear ho
            go_wp2_with fail
            refine (isMachine_any z _).mono ?_; rintro e w9 ⟨rfl, b9⟩
            have B9 : Below w.heap.size w w9 := B8.trans (b9.mono B8.size)
            clear b9
            cases ha : arKeys.contains z.data.toList
            · have HA := Lib.hid ha; clear ha
              go_wp2_with fail
              exact bodyPost_ret (v := .slice (some ⟨w9.heap.size, 0, none⟩) 0 0) (by simp [results, Tryd.results13, go_sem]) rfl ⟨B9.alloc B9.size _, some ⟨w9.heap.size, 0, none⟩, 0, [], rfl, by rw [implied_none HN.out (by simp) (by rw [HZ.out, HO.out, HA.out]; rfl)]; rfl, strs_none _ _⟩
            · have HA := Lib.hid ha; clear ha
              go_wp2_with fail
              exact bodyPost_ret (v := .slice (some ⟨w9.heap.size, 0, none⟩) 1 1) (by simp [results, Tryd.results13, go_sem]) rfl ⟨B9.alloc B9.size _, some ⟨w9.heap.size, 0, none⟩, 1, [z], rfl, by rw [implied_one HN.out (by simp) (by rw [HZ.out, HO.out, HA.out]; rfl), HZ.out]; rfl, Strs.newRow w9 _ [z] _ _ rfl (by intro t ht; rw [List.mem_singleton] at ht; subst ht; exact zl)⟩
          · have HO := Lib.hid ho; clear ho
            go_wp2_with fail
            exact bodyPost_ret (v := .slice (some ⟨w8.heap.size, 0, none⟩) 1 1) (by simp [results, Tryd.results13, go_sem]) rfl ⟨B8.alloc B8.size _, some ⟨w8.heap.size, 0, none⟩, 1, [z], rfl, by rw [implied_one HN.out (by simp) (by rw [HZ.out, HO.out]; rfl), HZ.out]; rfl, Strs.newRow w8 _ [z] _ _ rfl (by intro t ht; rw [List.mem_singleton] at ht; subst ht; exact zl)⟩
        · have hb3 : Below w3.heap.size w3 w3 := Below.refl _ _
          have hlt3 := World.block_lt_of_cell? w3 _ hcv
          go_wp2_with fail
          refine (isMachine_any z _).mono ?_; rintro e w4 ⟨rfl, b4⟩
          have hcv4 := (b4.cell (p := ⟨g2, i, none⟩) hlt3).trans hcv
          have B4 : Below w.heap.size w w4 := hbel.trans (b4.mono hbel.size)
          clear b4 hb3
          cases ha1 : arKeys.contains z.data.toList
          · have HA1 := Lib.hid ha1; clear ha1
            go_wp2_with fail
            refine (isSystem_any z _).mono ?_; rintro e w8 ⟨rfl, b8⟩
            have B8 : Below w.heap.size w w8 := B4.trans (b8.mono B4.size)
            clear b8
            cases ho : osKeys.contains z.data.toList
            · have HO := Lib.hid ho; clear ho
              go_wp2_with fail
              refine (isMachine_any z _).mono ?_; rintro e w9 ⟨rfl, b9⟩
              have B9 : Below w.heap.size w w9 := B8.trans (b9.mono B8.size)
              clear b9
              cases ha : arKeys.contains z.data.toList
              · have HA := Lib.hid ha; clear ha
                go_wp2_with fail
                exact bodyPost_ret (v := .slice (some ⟨w9.heap.size, 0, none⟩) 0 0) (by simp [results, Tryd.results13, go_sem]) rfl ⟨B9.alloc B9.size _, some ⟨w9.heap.size, 0, none⟩, 0, [], rfl, by rw [implied_none HN.out (by rw [HZ.out, HA1.out]; simp) (by rw [HZ.out, HO.out, HA.out]; rfl)]; rfl, strs_none _ _⟩
              · have HA := Lib.hid ha; clear ha
                go_wp2_with fail
                exact bodyPost_ret (v := .slice (some ⟨w9.heap.size, 0, none⟩) 1 1) (by simp [results, Tryd.results13, go_sem]) rfl ⟨B9.alloc B9.size _, some ⟨w9.heap.size, 0, none⟩, 1, [z], rfl, by rw [implied_one HN.out (by rw [HZ.out, HA1.out]; simp) (by rw [HZ.out, HO.out, HA.out]; rfl), HZ.out]; rfl, Strs.newRow w9 _ [z] _ _ rfl (by intro t ht; rw [List.mem_singleton] at ht; subst ht; exact zl)⟩
            · have HO := Lib.hid ho; clear ho
              go_wp2_with fail
              exact bodyPost_ret (v := .slice (some ⟨w8.heap.size, 0, none⟩) 1 1) (by simp [results, Tryd.results13, go_sem]) rfl ⟨B8.alloc B8.size _, some ⟨w8.heap.size, 0, none⟩, 1, [z], rfl, by rw [implied_one HN.out (by rw [HZ.out, HA1.out]; simp) (by rw [HZ.out, HO.out]; rfl), HZ.out]; rfl, Strs.newRow w8 _ [z] _ _ rfl (by intro t ht; rw [List.mem_singleton] at ht; subst ht; exact zl)⟩
          · have HA1 := Lib.hid ha1; clear ha1
            go_wp2_with fail
            refine (isSystem_any v _).mono ?_; rintro e w5 ⟨rfl, b5⟩
            have hcv5 := (b5.cell (p := ⟨g2, i, none⟩) (World.block_lt_of_cell? w4 _ hcv4)).trans hcv4
            have B5 : Below w.heap.size w w5 := B4.trans (b5.mono B4.size)
            clear b5
            cases ho1 : osKeys.contains v.data.toList
            · have HO1 := Lib.hid ho1; clear ho1
              go_wp2_with fail
              refine (isSystem_any z _).mono ?_; rintro e w8 ⟨rfl, b8⟩
              have B8 : Below w.heap.size w w8 := B5.trans (b8.mono B5.size)
              clear b8
              cases ho : osKeys.contains z.data.toList
              · have HO := Lib.hid ho; clear ho
                go_wp2_with fail
                refine (isMachine_any z _).mono ?_; rintro e w9 ⟨rfl, b9⟩
                have B9 : Below w.heap.size w w9 := B8.trans (b9.mono B8.size)
                clear b9
                cases ha : arKeys.contains z.data.toList
                · have HA := Lib.hid ha; clear ha
                  go_wp2_with fail
                  exact bodyPost_ret (v := .slice (some ⟨w9.heap.size, 0, none⟩) 0 0) (by simp [results, Tryd.results13, go_sem]) rfl ⟨B9.alloc B9.size _, some ⟨w9.heap.size, 0, none⟩, 0, [], rfl, by rw [implied_none HN.out (by rw [HV.out, HO1.out]; simp) (by rw [HZ.out, HO.out, HA.out]; rfl)]; rfl, strs_none _ _⟩
                · have HA := Lib.hid ha; clear ha
                  go_wp2_with fail
                  exact bodyPost_ret (v := .slice (some ⟨w9.heap.size, 0, none⟩) 1 1) (by simp [results, Tryd.results13, go_sem]) rfl ⟨B9.alloc B9.size _, some ⟨w9.heap.size, 0, none⟩, 1, [z], rfl, by rw [implied_one HN.out (by rw [HV.out, HO1.out]; simp) (by rw [HZ.out, HO.out, HA.out]; rfl), HZ.out]; rfl, Strs.newRow w9 _ [z] _ _ rfl (by intro t ht; rw [List.mem_singleton] at ht; subst ht; exact zl)⟩
              · have HO := Lib.hid ho; clear ho
                go_wp2_with fail
                exact bodyPost_ret (v := .slice (some ⟨w8.heap.size, 0, none⟩) 1 1) (by simp [results, Tryd.results13, go_sem]) rfl ⟨B8.alloc B8.size _, some ⟨w8.heap.size, 0, none⟩, 1, [z], rfl, by rw [implied_one HN.out (by rw [HV.out, HO1.out]; simp) (by rw [HZ.out, HO.out]; rfl), HZ.out]; rfl, Strs.newRow w8 _ [z] _ _ rfl (by intro t ht; rw [List.mem_singleton] at ht; subst ht; exact zl)⟩
            · have HO1 := Lib.hid ho1; clear ho1
              go_wp2_with fail
              exact bodyPost_ret (v := .slice (some ⟨w5.heap.size, 0, none⟩) 2 2) (by simp [results, Tryd.results13, go_sem]) rfl ⟨B5.alloc B5.size _, some ⟨w5.heap.size, 0, none⟩, 2, [v, z], rfl, by rw [implied_pair HN.out hi (by rw [HZ.out, HA1.out]) (by rw [HV.out, HO1.out]), HZ.out, HV.out]; rfl, Strs.newRow w5 _ [v, z] _ _ rfl (by intro t ht; rcases List.mem_cons.1 ht with rfl | ht; exact vl; rw [List.mem_singleton] at ht; subst ht; exact zl)⟩
  · obtain rfl : m = 0 := by omega
    have HW0 := Lib.hid (words_no HP.out HM.out HY.out (.inl rfl))
    go_upto_region 4 with fail
    clear hcl
    obtain ⟨ws, hstw, HL, HW⟩ : ∃ ws : List ByteArray, Strs w3 (some ⟨g2, 0, none⟩) ws ∧ Hid (ws.length = 0 + 1) ∧ Hid (ws.map (fun t => t.data.toList) = wordsOf s.data.toList) := ⟨ss2, hst2, HM, HW0⟩
    have HWD := Lib.hid (word ws (0) hstw HL.out)
    obtain ⟨z, hz, hcz⟩ := HWD.out (0) (Nat.le_refl _)
    have HZ : Hid ((wordsOf s.data.toList).getD (0) [] = z.data.toList) := Lib.hid <| by rw [← HW.out, List.getD_eq_getElem?_getD, List.getElem?_map, hz]; rfl
    have HN : Hid ((wordsOf s.data.toList).length = 0 + 1) := Lib.hid <| by rw [← HW.out, List.length_map, HL.out]
    have zl : z.size ≤ maxLen := hstw.1 z (List.mem_of_getElem? hz)
    clear hz
    go_wp2_with fail
    exact bodyPost_ret (v := .slice (some ⟨w3.heap.size, 0, none⟩) 0 0) (by simp [results, Tryd.results13, go_sem]) rfl ⟨hbel.alloc hbel.size _, some ⟨w3.heap.size, 0, none⟩, 0, [], rfl, by unfold implied; rw [HN.out]; rfl, strs_none _ _⟩

end Go.Proofs.YtbociefjibgklaaDoor
