/-
  bytes.Reader's Read; errors; readErr; fill.
-/
import Derived.Test.YtgplcbobomainaaDoorRdM
namespace Go.Proofs.YtgplcbobomainaaDoor
open Go.RowKit
set_option linter.unusedVariables false
set_option linter.unusedSimpArgs false

/-- A bytes.Reader: the rest of a slice. -/
def BytAt (w : World) (s d : Nat) (l : List UInt8) : Prop :=
  ∃ A c i full pr, w.heap[s]? = some (.cells #[.slice A (List.length full) c, .int .i64 (i : Nat), .int .i64 pr] 90 (0, 0)) ∧ i ≤ full.length ∧ full.length ≤ c ∧ c ≤ maxLen ∧ BtsD w d A full ∧ l = full.drop i

theorem byt_step {w : World} {s d k c i : Nat} {pr : Int} {A : Option Addr} {full : List UInt8} (hs : w.heap[s]? = some (.cells #[.slice A (List.length full) c, .int .i64 (i : Nat), .int .i64 pr] 90 (0, 0))) (hd : BtsD w d A full) (hds : d ≠ s)
    (hk : k ≤ (full.drop i).length) (hi : i ≤ full.length) (hlc : full.length ≤ c) (hcm : c ≤ maxLen) : BytAt (w.setCell ⟨s, 1, none⟩ (.int .i64 ((i : Int) + k))) s d ((full.drop i).drop k) := by
  have h2 := heap_setCell_same w s 1 _ _ (.int .i64 ((i : Int) + k)) hs
  rw [List.length_drop] at hk
  refine ⟨A, c, i + k, full, pr, ?_, by omega, hlc, hcm, hd.keep (by simp [World.setCell]) (Below.heap_setCell _ _ _ _ hds), by rw [List.drop_drop]⟩
  rw [h2, Int.natCast_add]; rfl

set_option maxRecDepth 100000 in
set_option maxHeartbeats 1000000 in
theorem bytRead_any (eb : Addr) (s d B n L C : Nat) (bs l : List UInt8) (w : World) (he : w.cell? ⟨2, 0, none⟩ = some (errV eb)) (hs : BytAt w s d l) (hB : w.heap[B]? = some (.cells (bv bs).toArray 5 (0, 0)))
    (hsB : s ≠ B) (hdB : d ≠ B) (hds : d ≠ s) (hL : 1 ≤ L) (hC : L ≤ C) (hn : n + L ≤ bs.length) (hb : bs.length ≤ 4096) (hCm : C ≤ 4096) :
    Calls Tryd.prog 84 #[.pointer (some ⟨s, 0, none⟩), .slice (some ⟨B, n, none⟩) L C] w (ReadPost eb B n bs l L (fun w' l' => BytAt w' s d l') [s, B] w) := by
  obtain ⟨A, c, i, full, pr, hsb, hi, hlc, hcm, hbt, hl⟩ := hs
  have c0 : w.cell? ⟨s, 0, none⟩ = some (.slice A (List.length full) c) := cells_row hsb 0
  have c1 : w.cell? ⟨s, 1, none⟩ = some (.int .i64 (i : Nat)) := cells_row hsb 1
  unfold maxLen at hcm
  rcases Nat.lt_or_ge i full.length with h0 | h0
  case inr =>
    have hl0 : full.drop i = [] := List.drop_eq_nil_of_le h0
    have HL : Hid (l = []) := Lib.hid (hl.trans hl0)
    have HD : Hid (full.drop i = []) := Lib.hid hl0
    clear hl hl0
    have hdec : decide ((full.length : Int) ≤ (i : Int)) = true := by rw [decide_eq_true_eq]; omega
    unfold errV at he
    go_enter Tryd.func84, Tryd.ntmps84
    go_wp2_with fail
    go_quiet (fail)
    go_wp2_with fail
    go_quiet (fail)
    go_wp2_with fail
    go_ret2
    exact .inl ⟨HL.out, rfl, ⟨A, c, i, full, pr, hsb, hi, hlc, by unfold maxLen; omega, hbt.keep (Fr.of_drawn (own := []) (((Drawn.refl _).more _).more _)).size rfl, HD.out.symm⟩, Fr.of_drawn (((Drawn.refl _).more _).more _), rfl⟩
  subst hl
  obtain ⟨ad, rfl, hab, hc⟩ := hbt.bts.2 (by omega)
  have hdec : decide ((full.length : Int) ≤ (i : Int)) = false := by rw [decide_eq_false_iff_not]; omega
  go_enter Tryd.func84, Tryd.ntmps84
  go_wp2_with fail
  go_quiet (fail)
  have hs1 : (w.drewN nq).heap[s]? = some (.cells #[.slice (some ad) (List.length full) c, .int .i64 (i : Nat), .int .i64 pr] 90 (0, 0)) := hsb
  have hB1 : (w.drewN nq).heap[B]? = some (.cells (bv bs).toArray 5 (0, 0)) := hB
  have fr1 : Fr [s, B] w (w.drewN nq) := Fr.of_drawn ⟨_, rfl⟩
  have hd1 : BtsD (w.drewN nq) d (some ad) full := hbt.keep fr1.size rfl
  generalize w.drewN nq = w1 at *
  clear c0 c1 hsb hB hbt hc hab he hdec
  have hs2 := heap_setCell_same w1 s 2 _ _ (.int .i64 (-1)) hs1
  have fr2 := fr1.setCell (p := ⟨s, 2, none⟩) (by simp) (.int .i64 (-1))
  have hB2 := (Below.heap_setCell w1 ⟨s, 2, none⟩ (.int .i64 (-1)) B (Ne.symm hsB)).trans hB1
  have hd2 : BtsD (w1.setCell ⟨s, 2, none⟩ (.int .i64 (-1))) d (some ad) full := hd1.keep (by simp [World.setCell]) (Below.heap_setCell _ _ _ _ hds)
  have f2 : w1.frozen? ⟨s, 2, none⟩ = false := row_thaw hs1 2
  have c2 : w1.cell? ⟨s, 2, none⟩ = some (.int .i64 pr) := cells_row hs1 2
  go_upto_region 4 with fail
  clear f2 c2 hs1 hB1 fr1 hd1
  generalize w1.setCell ⟨s, 2, none⟩ (.int .i64 (-1)) = w2 at *
  have hs3 : w2.heap[s]? = some (.cells #[.slice (some ad) (List.length full) c, .int .i64 (i : Nat), .int .i64 (-1)] 90 (0, 0)) := hs2
  clear hs2
  have c0 : w2.cell? ⟨s, 0, none⟩ = some (.slice (some ad) (List.length full) c) := cells_row hs3 0
  have c1 : w2.cell? ⟨s, 1, none⟩ = some (.int .i64 (i : Nat)) := cells_row hs3 1
  have hci : ¬ c = i := by omega
  have hi0 : (0 : Int) ≤ (i : Int) := by omega
  have hi1 : (i : Int) ≤ (full.length : Int) := by omega
  obtain ⟨_, hc⟩ : True ∧ ∀ j u, (bv (full.drop i))[j]? = some u → w2.cell? ((ad.add i).add j) = some u := by
    refine ⟨trivial, fun j u hu => ?_⟩
    obtain ⟨ad', e, _, hcc⟩ := hd2.bts.2 (by omega)
    injection e with e
    subst e
    rw [add_of_add]
    refine hcc _ u ?_
    unfold bv at hu ⊢
    rw [List.map_drop, List.getElem?_drop] at hu
    exact hu
  go_still_tail 10, (by kernel_rfl)
  change wpList _ _ _ _ _ w2.drew
  have hdl : (full.drop i).length = full.length - i := List.length_drop
  have hlen : ((bv (full.drop i)).take (Nat.min (full.length - i) L)).length = Nat.min (full.length - i) L := by rw [List.length_take, bv_len, hdl]; exact Nat.min_eq_left (Nat.min_le_left _ _)
  refine wpList_copy_own rfl (.tmp 20) (.tmp 29) 22 22 rfl 5 Tryd.underlying22 u8_size B n L C (ad.add i) (full.length - i) (c - i) rfl rfl (bv bs).toArray 5 hB2 ((bv (full.drop i)).take (Nat.min (full.length - i) L)) hlen (fun j v hv => hc j v (take_get hv)) (by rw [hlen]; simp [bv_len]; exact Nat.le_trans (Nat.add_le_add_left (Nat.min_le_right _ _) _) (by omega)) (fun u hu => bv_one _ u (List.mem_of_mem_take hu)) ?_
  rw [hlen]
  obtain ⟨k, hk, hk0, hkL, hkl⟩ : ∃ k, Nat.min (full.length - i) L = k ∧ 0 < k ∧ k ≤ L ∧ k ≤ full.length - i := ⟨_, rfl, min_pos (by omega) (by omega), Nat.min_le_right _ _, Nat.min_le_left _ _⟩
  rw [hk]
  have hrow : List.take n (bv bs).toArray.toList ++ ((bv (full.drop i)).take k ++ List.drop (n + k) (bv bs).toArray.toList) = bv (bs.take n ++ (full.drop i).take k ++ bs.drop (n + k)) := by
    unfold bv; simp [List.map_take, List.map_drop]
  have hrow2 : List.take n (bv bs).toArray.toList ++ (bv (full.drop i)).take k ++ List.drop (n + k) (bv bs).toArray.toList = bv (bs.take n ++ (full.drop i).take k ++ bs.drop (n + k)) := by
    unfold bv; simp [List.map_take, List.map_drop]
  first | rw [hrow] | rw [hrow2]
  clear hrow hrow2 hk hlen c0 c1 hi0 hi1
  have hB4 := setRow_heap w2.drew B (bv bs).toArray (bv (bs.take n ++ (full.drop i).take k ++ bs.drop (n + k))).toArray 5 (0, 0) hB2
  have hs4 := (setRow_other w2.drew B s (bv (bs.take n ++ (full.drop i).take k ++ bs.drop (n + k))).toArray hsB).trans hs3
  have fr4 := (fr2.drew).setRow (g := B) (by simp) (bv (bs.take n ++ (full.drop i).take k ++ bs.drop (n + k))).toArray
  have hd4 : BtsD (w2.drew.setRow B (bv (bs.take n ++ (full.drop i).take k ++ bs.drop (n + k))).toArray) d (some ad) full := hd2.keep (by simp [World.setRow]) (setRow_other _ _ _ _ hdB)
  clear hB2 hs3 fr2 hd2 hc
  generalize w2.drew.setRow B _ = w4 at *
  have c1 : w4.cell? ⟨s, 1, none⟩ = some (.int .i64 (i : Nat)) := cells_row hs4 1
  have f1 := row_thaw hs4 1
  unfold goInt
  go_wp2_with fail
  go_ret2
  exact .inr ⟨k, hk0, hkL, by rw [hdl]; exact hkl, rfl, byt_step hs4 hd4 hds (by rw [hdl]; exact hkl) hi hlc (by unfold maxLen; omega), fr4.setCell (p := ⟨s, 1, none⟩) (by simp) _, (Below.heap_setCell _ ⟨s, 1, none⟩ _ B (Ne.symm hsB)).trans hB4⟩
end Go.Proofs.YtgplcbobomainaaDoor
