/-
  A reader's memory: words. The source's Read.
-/
import Derived.Test.YtgplcbobomainaaDoorRdS
import Derived.Test.YtgplcbobomainaaDoorBas
import Derived.Laws.CopyRow
import Derived.Laws.CopyOwn
import Derived.Laws.Tables
import Derived.StillTailTactics
import Derived.Deep.Cut
import Derived.Deep.DeepCutAuto
import Derived.RegionCalls
import Derived.Deep.RegionWith
import Derived.Outline
namespace Go.Proofs.YtgplcbobomainaaDoor
open Go.RowKit
set_option linter.unusedVariables false
set_option linter.unusedSimpArgs false

/-- Only these blocks may have changed. -/
structure Fr (own : List Nat) (w w' : World) : Prop where
  os : w'.os = w.os
  tape : w'.tape = w.tape
  output : w'.output = w.output
  size : w.heap.size ≤ w'.heap.size
  block : ∀ k, k < w.heap.size → k ∉ own → w'.heap[k]? = w.heap[k]?
section
variable {own : List Nat} {w w' w'' : World}
theorem Fr.refl (own : List Nat) (w : World) : Fr own w w := ⟨rfl, rfl, rfl, Nat.le_refl _, fun _ _ _ => rfl⟩
theorem Fr.trans (h : Fr own w w') (k : Fr own w' w'') : Fr own w w'' :=
  ⟨k.os.trans h.os, k.tape.trans h.tape, k.output.trans h.output, Nat.le_trans h.size k.size, fun i hi hn => (k.block i (Nat.lt_of_lt_of_le hi h.size) hn).trans (h.block i hi hn)⟩
theorem Fr.drewN (h : Fr own w w') (n : Nat) : Fr own w (w'.drewN n) := by
  have b := below_drewN (Below.refl w'.heap.size w') n
  exact h.trans ⟨b.os, b.tape, b.output, b.size, fun k hk _ => b.block k hk⟩
theorem Fr.drew (h : Fr own w w') : Fr own w w'.drew := ⟨h.os, h.tape, h.output, h.size, h.block⟩
theorem Fr.setCell (h : Fr own w w') {p : Addr} (hp : p.block ∈ own) (u : Value) : Fr own w (w'.setCell p u) :=
  h.trans ⟨rfl, rfl, rfl, by simp [World.setCell], fun k hk hn => Below.heap_setCell _ _ _ _ (fun e => hn (e ▸ hp))⟩
theorem Fr.setRow (h : Fr own w w') {g : Nat} (hp : g ∈ own) (cs : Array Value) : Fr own w (w'.setRow g cs) :=
  h.trans ⟨rfl, rfl, rfl, by simp [World.setRow], fun k hk hn => setRow_other _ _ _ _ (fun e => hn (e ▸ hp))⟩
theorem Fr.alloc (h : Fr own w w') (o : Obj) : Fr own w (w'.alloc o) :=
  h.trans ⟨rfl, rfl, rfl, by simp, fun k hk _ => Below.heap_alloc _ _ _ hk⟩
theorem Fr.grown (h : Fr own w w') {row : Option Nat} (hg : w'.grownBy w'' row) (hr : ∀ k, row = some k → k ∈ own) : Fr own w w'' :=
  h.trans ⟨hg.os, hg.tape, hg.output, hg.size, fun k hk hn => hg.block k hk (fun e => hn (hr k e.symm))⟩
theorem Fr.below (h : Fr own w w') {B : Nat} (hB : B ≤ w.heap.size) (ho : ∀ k, k ∈ own → B ≤ k) : Below B w w' :=
  ⟨h.os, h.tape, h.output, h.size, fun k hk => h.block k (by omega) (fun e => by have := ho k e; omega)⟩
theorem Fr.mono {own' : List Nat} (h : Fr own w w') (hs : ∀ k, k ∈ own → k ∈ own') : Fr own' w w' :=
  ⟨h.os, h.tape, h.output, h.size, fun k hk hn => h.block k hk (fun e => hn (hs k e))⟩
theorem Fr.cell (h : Fr own w w') {p : Addr} (hp : p.block < w.heap.size) (hn : p.block ∉ own) : w'.cell? p = w.cell? p := World.cell?_of_block (h.block _ hp hn)
theorem Fr.of_below (h : Below w.heap.size w w') : Fr own w w' := ⟨h.os, h.tape, h.output, h.size, fun k hk _ => h.block k hk⟩
theorem Fr.of_drawn (h : Drawn w w') : Fr own w w' := Fr.of_below h.below
end

/-- A slice of bytes that lies in block d. -/
structure BtsD (w : World) (d : Nat) (A : Option Addr) (l : List UInt8) : Prop where
  lt : d < w.heap.size
  bts : Bts w A l
  blk : ∀ a, A = some a → a.block = d
section
variable {w w' : World} {d : Nat} {A : Option Addr} {l : List UInt8}
theorem BtsD.keep (h : BtsD w d A l) (hs : w.heap.size ≤ w'.heap.size) (hk : w'.heap[d]? = w.heap[d]?) : BtsD w' d A l := by
  refine ⟨Nat.lt_of_lt_of_le h.lt hs, ⟨h.bts.1, fun hp => ?_⟩, h.blk⟩
  obtain ⟨ad, e, hb, hc⟩ := h.bts.2 hp
  refine ⟨ad, e, Nat.lt_of_lt_of_le hb hs, fun j u hu => ?_⟩
  rw [World.cell?_of_block (w := w) (w' := w') (by rw [block_of_add, h.blk ad e]; exact hk)]
  exact hc j u hu
theorem BtsD.cut (h : BtsD w d A l) {k cap : Nat} (hk : k ≤ l.length) (hc : l.length ≤ cap) : BtsD w d (if cap = k then A else A.map (·.add k)) (l.drop k) := by
  refine ⟨h.lt, h.bts.cut hk hc, fun a e => ?_⟩
  split at e
  · exact h.blk a e
  · cases A with
    | none => cases e
    | some x =>
      simp only [Option.map_some, Option.some.injEq] at e
      rw [← e, block_of_add]
      exact h.blk x rfl
end

/-- The source's own: some bytes, the rest of a slice; how many at once. -/
def OwnAt (w : World) (s d : Nat) (l : List UInt8) : Prop :=
  ∃ A c m, w.heap[s]? = some (.cells #[.slice A l.length c, .int .i64 (m : Nat)] 72 (0, 0)) ∧ 1 ≤ m ∧ m ≤ 4096 ∧ l.length ≤ c ∧ c ≤ maxLen ∧ BtsD w d A l

def errV (b : Addr) : Value := .iface 98 (.pointer (some b))

theorem u8_size : (Tryd.prog.info? 5).map (·.size) = some 1 := by kernel_rfl
theorem bv_one (l : List UInt8) : ∀ u ∈ bv l, u.oneCell' = true := by
  intro u hu
  unfold bv at hu
  obtain ⟨b, _, rfl⟩ := List.mem_map.1 hu
  rfl
theorem cells_row {w : World} {s : Nat} {cs : Array Value} {t : TypeId} (h : w.heap[s]? = some (.cells cs t (0, 0))) (i : Nat) : w.cell? ⟨s, i, none⟩ = cs[i]? := cell_of_row w s i cs t (0, 0) h
theorem row_lt {w : World} {s : Nat} {o : Obj} (h : w.heap[s]? = some o) : s < w.heap.size := (Array.getElem?_eq_some_iff.1 h).1
theorem row_thaw {w : World} {s : Nat} {cs : Array Value} {t : TypeId} (h : w.heap[s]? = some (.cells cs t (0, 0))) (i : Nat) : w.frozen? ⟨s, i, none⟩ = false := by
  unfold World.frozen?
  rw [h]
  simp

theorem take_get {α : Type} {l : List α} {k j : Nat} {v : α} (h : (l.take k)[j]? = some v) : l[j]? = some v := by
  rw [List.getElem?_take] at h
  split at h
  · exact h
  · cases h
theorem min_pos {a b : Nat} (h : 0 < a) (h' : 0 < b) : 0 < Nat.min a b := by
  show 0 < min a b
  omega
theorem own_step {w : World} {s d k c m : Nat} {ad : Addr} {l : List UInt8} (hs : w.heap[s]? = some (.cells #[.slice (some ad) l.length c, .int .i64 (m : Nat)] 72 (0, 0))) (hd : BtsD w d (some ad) l) (hds : d ≠ s)
    (hk : k ≤ l.length) (hlc : l.length ≤ c) (hcm : c ≤ maxLen) (hm1 : 1 ≤ m) (hm2 : m ≤ 4096) (hck : c ≠ k) : OwnAt (w.setCell ⟨s, 0, none⟩ (.slice (some (ad.add k)) (l.length - k) (c - k))) s d (l.drop k) := by
  have h2 := heap_setCell_same w s 0 _ _ (.slice (some (ad.add k)) (l.length - k) (c - k)) hs
  have hb := hd.cut hk hlc (cap := c)
  rw [if_neg hck] at hb
  refine ⟨some (ad.add k), c - k, m, ?_, hm1, hm2, by rw [List.length_drop]; omega, by omega, hb.keep (by simp [World.setCell]) (Below.heap_setCell _ _ _ _ hds)⟩
  rw [h2, List.length_drop]; rfl
theorem own_end {w : World} {s d c m : Nat} {ad : Addr} {l : List UInt8} (hs : w.heap[s]? = some (.cells #[.slice (some ad) l.length c, .int .i64 (m : Nat)] 72 (0, 0))) (hd : BtsD w d (some ad) l) (hds : d ≠ s)
    (hlc : l.length ≤ c) (hm1 : 1 ≤ m) (hm2 : m ≤ 4096) : OwnAt (w.setCell ⟨s, 0, none⟩ (.slice (some ad) 0 0)) s d (l.drop c) := by
  have h2 := heap_setCell_same w s 0 _ _ (.slice (some ad) 0 0) hs
  have e : l.drop c = [] := List.drop_eq_nil_of_le hlc
  have hk : BtsD (w.setCell ⟨s, 0, none⟩ (.slice (some ad) 0 0)) d (some ad) l := hd.keep (by simp [World.setCell]) (Below.heap_setCell _ _ _ _ hds)
  rw [e]
  exact ⟨some ad, 0, m, h2, hm1, hm2, Nat.le_refl _, Nat.zero_le _, hk.lt, Bts.nil_ _ _, hk.blk⟩
/-- What a source's Read does. -/
def ReadPost (eb : Addr) (B n : Nat) (bs l : List UInt8) (L : Nat) (src : World → List UInt8 → Prop) (own : List Nat) (w : World) (e : Ending) (w' : World) : Prop :=
  (l = [] ∧ e = .returned (.tuple #[.int .i64 0, errV eb]) ∧ src w' [] ∧ Fr own w w' ∧ w'.heap[B]? = w.heap[B]?) ∨
  (∃ k, 0 < k ∧ k ≤ L ∧ k ≤ l.length ∧ e = .returned (.tuple #[.int .i64 (k : Nat), .nilIface]) ∧ src w' (l.drop k) ∧ Fr own w w' ∧
    w'.heap[B]? = some (.cells (bv (bs.take n ++ l.take k ++ bs.drop (n + k))).toArray 5 (0, 0)))

set_option maxRecDepth 100000 in
set_option maxHeartbeats 400000 in
theorem ownRead_any (eb : Addr) (s d B n L C : Nat) (bs l : List UInt8) (w : World) (he : w.cell? ⟨2, 0, none⟩ = some (errV eb)) (hs : OwnAt w s d l) (hB : w.heap[B]? = some (.cells (bv bs).toArray 5 (0, 0)))
    (hsB : s ≠ B) (hdB : d ≠ B) (hds : d ≠ s) (hL : 1 ≤ L) (hC : L ≤ C) (hn : n + L ≤ bs.length) (hb : bs.length ≤ 4096) (hCm : C ≤ 4096) :
    Calls Tryd.prog 81 #[.pointer (some ⟨s, 0, none⟩), .slice (some ⟨B, n, none⟩) L C] w (ReadPost eb B n bs l L (fun w' l' => OwnAt w' s d l') [s, B] w) := by
  obtain ⟨A, c, m, hsb, hm1, hm2, hlc, hcm, hbt⟩ := hs
  have c0 : w.cell? ⟨s, 0, none⟩ = some (.slice A l.length c) := cells_row hsb 0
  have c1 : w.cell? ⟨s, 1, none⟩ = some (.int .i64 (m : Nat)) := cells_row hsb 1
  unfold maxLen at hcm
  rcases Nat.eq_zero_or_pos l.length with h0 | h0
  · obtain rfl : l = [] := List.eq_nil_of_length_eq_zero h0
    unfold errV at he
    go_enter Tryd.func81, Tryd.ntmps81
    go_wp2_with fail
    go_quiet (fail)
    go_wp2_with fail
    go_ret2
    exact .inl ⟨rfl, rfl, ⟨A, c, m, hsb, hm1, hm2, hlc, hcm, hbt.keep (Fr.of_drawn (own := []) ⟨_, rfl⟩).size rfl⟩, Fr.of_drawn ⟨_, rfl⟩, rfl⟩
  · obtain ⟨ad, rfl, hab, hc⟩ := hbt.bts.2 h0
    rcases Nat.lt_or_ge m L with hml | hml
    · have hi0 : (0 : Int) ≤ (m : Int) := by omega
      have hi1 : (m : Int) ≤ (C : Int) := by omega
      go_enter Tryd.func81, Tryd.ntmps81
      go_wp2_with fail
      go_still_tail 13, (by kernel_rfl)
      change wpList _ _ _ _ _ w.drew
      have hlen : ((bv l).take (Nat.min l.length m)).length = Nat.min l.length m := by rw [List.length_take, bv_len]; exact Nat.min_eq_left (Nat.min_le_left _ _)
      refine wpList_copy_own rfl (.tmp 22) (.tmp 26) 22 22 rfl 5 Tryd.underlying22 u8_size B n m C ad l.length c rfl rfl (bv bs).toArray 5 hB ((bv l).take (Nat.min l.length m)) hlen (fun j v hv => hc j v (take_get hv)) (by rw [hlen]; simp [bv_len]; exact Nat.le_trans (Nat.add_le_add_left (Nat.min_le_right _ _) _) (by omega)) (fun u hu => bv_one l u (List.mem_of_mem_take hu)) ?_
      rw [hlen]
      obtain ⟨k, hk, hk0, hkL, hkl⟩ : ∃ k, Nat.min l.length m = k ∧ 0 < k ∧ k ≤ L ∧ k ≤ l.length := ⟨_, rfl, min_pos h0 (by omega), Nat.le_trans (Nat.min_le_right _ _) (by omega), Nat.min_le_left _ _⟩
      rw [hk]
      have hrow : List.take n (bv bs).toArray.toList ++ ((bv l).take k ++ List.drop (n + k) (bv bs).toArray.toList) = bv (bs.take n ++ l.take k ++ bs.drop (n + k)) := by
        unfold bv; simp [List.map_take, List.map_drop]
      have hrow2 : List.take n (bv bs).toArray.toList ++ (bv l).take k ++ List.drop (n + k) (bv bs).toArray.toList = bv (bs.take n ++ l.take k ++ bs.drop (n + k)) := by
        unfold bv; simp [List.map_take, List.map_drop]
      first | rw [hrow] | rw [hrow2]
      clear hrow hrow2 hk hlen c0 c1 hi0 hi1
      have hB2 := setRow_heap w.drew B (bv bs).toArray (bv (bs.take n ++ l.take k ++ bs.drop (n + k))).toArray 5 (0, 0) hB
      have hs2 := (setRow_other w.drew B s (bv (bs.take n ++ l.take k ++ bs.drop (n + k))).toArray hsB).trans hsb
      have fr := ((Fr.refl [s, B] w).drew).setRow (g := B) (by simp) (bv (bs.take n ++ l.take k ++ bs.drop (n + k))).toArray
      have hd2 : BtsD (w.drew.setRow B (bv (bs.take n ++ l.take k ++ bs.drop (n + k))).toArray) d (some ad) l := hbt.keep fr.size (setRow_other _ _ _ _ hdB)
      generalize w.drew.setRow B _ = w2 at *
      have c0 : w2.cell? ⟨s, 0, none⟩ = some (.slice (some ad) l.length c) := cells_row hs2 0
      have c1 := row_thaw hs2 0
      have hl0 : (0 : Int) ≤ (k : Int) := by omega
      have hl1 : (k : Int) ≤ (l.length : Int) := by omega
      clear hB hsb hbt hc
      unfold goInt
      by_cases hck : c = k
      · subst hck
        go_wp2_with fail
        go_ret2
        exact .inr ⟨c, hk0, hkL, hkl, rfl, own_end hs2 hd2 hds hlc hm1 hm2, fr.setCell (p := ⟨s, 0, none⟩) (by simp) _, (Below.heap_setCell _ ⟨s, 0, none⟩ _ B (Ne.symm hsB)).trans hB2⟩
      · go_wp2_with fail
        go_ret2
        exact .inr ⟨k, hk0, hkL, hkl, rfl, own_step hs2 hd2 hds hkl hlc (by unfold maxLen; omega) hm1 hm2 hck, fr.setCell (p := ⟨s, 0, none⟩) (by simp) _, (Below.heap_setCell _ ⟨s, 0, none⟩ _ B (Ne.symm hsB)).trans hB2⟩
    · have hml' : ¬ m < L := by omega
      have hi0 : (0 : Int) ≤ (L : Int) := by omega
      have hi1 : (L : Int) ≤ (C : Int) := by omega
      go_enter Tryd.func81, Tryd.ntmps81
      go_wp2_with fail
      go_still_tail 13, (by kernel_rfl)
      change wpList _ _ _ _ _ w.drew
      have hlen : ((bv l).take (Nat.min l.length L)).length = Nat.min l.length L := by rw [List.length_take, bv_len]; exact Nat.min_eq_left (Nat.min_le_left _ _)
      refine wpList_copy_own rfl (.tmp 22) (.tmp 26) 22 22 rfl 5 Tryd.underlying22 u8_size B n L C ad l.length c rfl rfl (bv bs).toArray 5 hB ((bv l).take (Nat.min l.length L)) hlen (fun j v hv => hc j v (take_get hv)) (by rw [hlen]; simp [bv_len]; exact Nat.le_trans (Nat.add_le_add_left (Nat.min_le_right _ _) _) (by omega)) (fun u hu => bv_one l u (List.mem_of_mem_take hu)) ?_
      rw [hlen]
      obtain ⟨k, hk, hk0, hkL, hkl⟩ : ∃ k, Nat.min l.length L = k ∧ 0 < k ∧ k ≤ L ∧ k ≤ l.length := ⟨_, rfl, min_pos h0 (by omega), Nat.le_trans (Nat.min_le_right _ _) (by omega), Nat.min_le_left _ _⟩
      rw [hk]
      have hrow : List.take n (bv bs).toArray.toList ++ ((bv l).take k ++ List.drop (n + k) (bv bs).toArray.toList) = bv (bs.take n ++ l.take k ++ bs.drop (n + k)) := by
        unfold bv; simp [List.map_take, List.map_drop]
      have hrow2 : List.take n (bv bs).toArray.toList ++ (bv l).take k ++ List.drop (n + k) (bv bs).toArray.toList = bv (bs.take n ++ l.take k ++ bs.drop (n + k)) := by
        unfold bv; simp [List.map_take, List.map_drop]
      first | rw [hrow] | rw [hrow2]
      clear hrow hrow2 hk hlen c0 c1 hi0 hi1
      have hB2 := setRow_heap w.drew B (bv bs).toArray (bv (bs.take n ++ l.take k ++ bs.drop (n + k))).toArray 5 (0, 0) hB
      have hs2 := (setRow_other w.drew B s (bv (bs.take n ++ l.take k ++ bs.drop (n + k))).toArray hsB).trans hsb
      have fr := ((Fr.refl [s, B] w).drew).setRow (g := B) (by simp) (bv (bs.take n ++ l.take k ++ bs.drop (n + k))).toArray
      have hd2 : BtsD (w.drew.setRow B (bv (bs.take n ++ l.take k ++ bs.drop (n + k))).toArray) d (some ad) l := hbt.keep fr.size (setRow_other _ _ _ _ hdB)
      generalize w.drew.setRow B _ = w2 at *
      have c0 : w2.cell? ⟨s, 0, none⟩ = some (.slice (some ad) l.length c) := cells_row hs2 0
      have c1 := row_thaw hs2 0
      have hl0 : (0 : Int) ≤ (k : Int) := by omega
      have hl1 : (k : Int) ≤ (l.length : Int) := by omega
      clear hB hsb hbt hc
      unfold goInt
      by_cases hck : c = k
      · subst hck
        go_wp2_with fail
        go_ret2
        exact .inr ⟨c, hk0, hkL, hkl, rfl, own_end hs2 hd2 hds hlc hm1 hm2, fr.setCell (p := ⟨s, 0, none⟩) (by simp) _, (Below.heap_setCell _ ⟨s, 0, none⟩ _ B (Ne.symm hsB)).trans hB2⟩
      · go_wp2_with fail
        go_ret2
        exact .inr ⟨k, hk0, hkL, hkl, rfl, own_step hs2 hd2 hds hkl hlc (by unfold maxLen; omega) hm1 hm2 hck, fr.setCell (p := ⟨s, 0, none⟩) (by simp) _, (Below.heap_setCell _ ⟨s, 0, none⟩ _ B (Ne.symm hsB)).trans hB2⟩
end Go.Proofs.YtgplcbobomainaaDoor
