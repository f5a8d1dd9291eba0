/-
  What replaceVendor and the reference Replaced return.
-/
import Derived.Test.YtdapcnhgbmicoaaSplit
import Derived.Test.YtdapcnhgbmicoaaSpSplit
import Derived.Test.YtdapcnhgbmicoaaJn
import Derived.Test.YtdapcnhgbmicoaaJoin
namespace Go.Proofs.Ytdapcnhgbmicoaa
open Go.RowKit
set_option linter.unusedVariables false
set_option linter.unusedSimpArgs false

def vendor : ByteArray := ⟨#[118, 101, 110, 100, 111, 114]⟩
def sl : ByteArray := ⟨#[47]⟩
/-- A text in the place of the element vendor. -/
def put (r : ByteArray) (e : ByteArray) : ByteArray := if e = vendor then r else e
def toB (xs : List (List UInt8)) : List ByteArray := xs.map BA
theorem toB_data (ss : List ByteArray) : toB (ss.map fun s => s.data.toList) = ss := by
  unfold toB
  rw [List.map_map]
  conv => rhs; rw [← List.map_id ss]
  apply List.map_congr_left
  intro s _
  exact WideShapes.bytes_inj (by simp [BA_data])
theorem toB_len (xs : List (List UInt8)) : (toB xs).length = xs.length := by unfold toB; simp
/-- A path with a text in the place of its elements vendor but the last one. -/
def reps (x r : ByteArray) : List ByteArray := repTo (put r) (toB (spl 47 x.data.toList)) ((spl 47 x.data.toList).length - 1)
def rep (x r : ByteArray) : ByteArray := joinB sl (reps x r)

theorem reps_len (x r : ByteArray) : (reps x r).length ≤ x.size + 1 := by
  unfold reps
  rw [repTo_len, toB_len, size_list]
  exact spl_len _ _
theorem repTo_mem {α : Type} {f : α → α} {ss : List α} {k : Nat} {x : α} (h : x ∈ repTo f ss k) : (∃ s ∈ ss, x = f s) ∨ x ∈ ss := by
  unfold repTo at h
  rcases List.mem_append.1 h with h | h
  · obtain ⟨s, hs, rfl⟩ := List.mem_map.1 h
    exact .inl ⟨s, List.mem_of_mem_take hs, rfl⟩
  · exact .inr (List.mem_of_mem_drop h)
theorem toB_size {x : ByteArray} : ∀ s ∈ toB (spl 47 x.data.toList), s.size ≤ x.size := by
  intro s hs
  unfold toB at hs
  obtain ⟨l, hl, rfl⟩ := List.mem_map.1 hs
  rw [BA_size, size_list]
  exact spl_size l hl
theorem reps_size {x r : ByteArray} {M : Nat} (hx : x.size ≤ M) (hr : r.size ≤ M) {k : Nat} : ∀ s ∈ repTo (put r) (toB (spl 47 x.data.toList)) k, s.size ≤ M := by
  intro s hs
  rcases repTo_mem hs with ⟨t, ht, rfl⟩ | ht
  · unfold put
    split
    · exact hr
    · exact Nat.le_trans (toB_size t ht) hx
  · exact Nat.le_trans (toB_size s ht) hx
theorem rep_same {x r : ByteArray} (h : fi vendor.data.toList x.data.toList = none) : rep x r = x := by
  unfold rep reps
  rw [repTo_id]
  · apply WideShapes.bytes_inj
    rw [joinB_data]
    have e : (toB (spl 47 x.data.toList)).map (fun s => s.data.toList) = spl 47 x.data.toList := by
      unfold toB
      rw [List.map_map]
      conv => rhs; rw [← List.map_id (spl 47 x.data.toList)]
      exact List.map_congr_left fun s _ => by simp [BA_data]
    rw [e]
    exact jl_spl 47 _
  · intro s hs
    unfold put
    rw [if_neg]
    rintro rfl
    unfold toB at hs
    obtain ⟨l, hl, e⟩ := List.mem_map.1 hs
    obtain ⟨a, b, hab⟩ := spl_infix l hl
    have : l = vendor.data.toList := by rw [← e, BA_data]
    rw [this] at hab
    rw [hab] at h
    exact fi_infix a b h
theorem rep_vendor {x : ByteArray} : rep x vendor = x := by
  unfold rep reps
  rw [repTo_id]
  · apply WideShapes.bytes_inj
    rw [joinB_data]
    have e : (toB (spl 47 x.data.toList)).map (fun s => s.data.toList) = spl 47 x.data.toList := by
      unfold toB
      rw [List.map_map]
      conv => rhs; rw [← List.map_id (spl 47 x.data.toList)]
      exact List.map_congr_left fun s _ => by simp [BA_data]
    rw [e]
    exact jl_spl 47 _
  · intro s hs
    unfold put
    split
    · rename_i h; exact h.symm
    · rfl
/-- Where no element is vendor, nothing is put in. -/
theorem rep_free {x r : ByteArray} (h : vendor ∉ toB (spl 47 x.data.toList)) : rep x r = x := by
  unfold rep reps
  rw [repTo_id]
  · apply WideShapes.bytes_inj
    rw [joinB_data]
    have e : (toB (spl 47 x.data.toList)).map (fun s => s.data.toList) = spl 47 x.data.toList := by
      unfold toB
      rw [List.map_map]
      conv => rhs; rw [← List.map_id (spl 47 x.data.toList)]
      exact List.map_congr_left fun s _ => by simp [BA_data]
    rw [e]
    exact jl_spl 47 _
  · intro s hs
    unfold put
    rw [if_neg]
    rintro rfl
    exact h hs

theorem contains_any (s sub : ByteArray) (ws : s.size ≤ 4611686018427387904) (wp : sub.size ≤ 2147483647) (w : World) :
    Calls Try.prog 38 #[.string s, .string sub] w fun e w' => e = .returned (.bool (decide (0 ≤ fidx s sub))) ∧ w = w' := by
  go_enter Try.func38, Try.ntmps38
  go_wp2_with fail
  refine (zzIndex_any s sub ws wp _).mono ?_; rintro e w' ⟨rfl, rfl⟩
  generalize hh : fidx s sub = i
  have HH := Lib.hid hh
  clear hh
  go_wp2_with fail
  go_ret
  exact ⟨ret_bool (by rw [HH.out]), rfl⟩

theorem strJoin_any {w : World} {base g cap : Nat} {ss : List ByteArray} (h : w.ownsRow base 9 1 (.slice (some ⟨g, 0, none⟩) ss.length cap) ss.length (sv ss)) (hlen : (joinB sl ss).size ≤ 140737488355328) (hN : ss.length ≤ 140737488355328) :
    Calls Try.prog 40 #[.slice (some ⟨g, 0, none⟩) ss.length cap, .string ⟨#[47]⟩] w fun e w' => e = .returned (.string (joinB sl ss)) ∧ Below w.heap.size w w' := by
  have hlt := (World.ownsRow.lt h g rfl).2
  have hcap : ss.length ≤ cap := by
    rcases h.2 with ⟨h', _⟩ | ⟨g', cap', cur, h', _, _, hnc, _⟩
    · simp at h'
    · simp only [Value.slice.injEq] at h'
      omega
  have hcells : ∀ (j : Nat) x, ss[j]? = some x → w.cell? ⟨g, 0 + j, none⟩ = some (.string x) := by
    intro j x hx
    have hj : j < ss.length := (List.getElem?_eq_some_iff.1 hx).1
    rw [Nat.zero_add, World.ownsRow.cellAt h j (by omega)]
    simp [sv, hx]
  have e : joinB sl ss = ⟨(Lib.join (ss.map (·.data.toList)) sl.data.toList).toArray⟩ := by
    unfold joinB
    rw [jl_lib]
  rw [e]
  refine strJoin g 0 cap ss sl w hcells hlt hN hcap ?_
  rw [← jl_lib]
  have := hlen
  rw [size_list, joinB_data] at this
  exact this

theorem vendor_list : vendor.toList = [118, 101, 110, 100, 111, 114] := by rw [Lib.toList_data]; rfl
theorem rep_size {x r : ByteArray} (hx : x.size ≤ 1048576) (hr : r.size ≤ 1048576) : (rep x r).size ≤ 1099513724929 := by
  have h1 := joinB_size sl (reps x r) 1048576 (reps_size hx hr)
  have h2 := reps_len x r
  have h3 : sl.size = 1 := rfl
  rw [h3] at h1
  have h4 : (reps x r).length * (1048576 + 1) ≤ 1048577 * (1048576 + 1) := Nat.mul_le_mul_right _ (by omega)
  unfold rep
  omega

set_option maxHeartbeats 2000000 in
theorem replaceVendor_any (x r : ByteArray) (hx : x.size ≤ 1048576) (hr : r.size ≤ 1048576) (w : World) :
    Calls Try.prog 29 #[.string x, .string r] w fun e w' => e = .returned (.string (rep x r)) ∧ Below w.heap.size w w' := by
  cases hf : fi vendor.data.toList x.data.toList with
  | none =>
    have HF : Hid (fidx x vendor = -1) := Lib.hid <| by unfold fidx; rw [hf]
    have HR := Lib.hid (rep_same (r := r) hf)
    clear hf
    go_enter Try.func29, Try.ntmps29
    go_wp2_with fail
    refine (contains_any x vendor (by omega) (by decide) _).mono ?_; rintro e w' ⟨rfl, rfl⟩; rw [HF.out]
    go_wp2_with fail
    go_ret
    exact ⟨ret_string HR.out.symm, Below.refl _ _⟩
  | some i =>
    have HF : Hid (fidx x vendor = (i : Int)) := Lib.hid <| by unfold fidx; rw [hf]
    have hpos : decide (0 ≤ (i : Int)) = true := by simp
    clear hf
    have HP := Lib.hid hpos; clear hpos
    go_enter Try.func29, Try.ntmps29
    go_wp2_with fail
    refine (contains_any x vendor (by omega) (by decide) _).mono ?_; rintro e w' ⟨rfl, rfl⟩; rw [HF.out, HP.out]
    go_wp2_with fail
    refine (zzSplit_any x sl (by omega) (by decide) (by decide) _).mono ?_
    rintro e w1 ⟨g, cap, ss, rfl, hp, hown, b1⟩
    have hss : ss = toB (spl 47 x.data.toList) := by
      have e1 : splS sl.data.toList x.data.toList = spl 47 x.data.toList := splS_spl 47 _ _ (Nat.le_refl _)
      rw [← e1, ← hp, toB_data]
    have HFin : Hid (joinB sl (repTo (put r) ss (ss.length - 1)) = rep x r) := Lib.hid <| by unfold rep reps; rw [hss, toB_len]
    have hlen : ss.length ≤ 1048577 := by rw [hss, toB_len]; have := spl_len 47 x.data.toList; rw [← size_list] at this; omega
    have hpos : 0 < ss.length := by
      rw [hss, toB_len]
      have := spl_ne 47 x.data.toList
      cases h : spl 47 x.data.toList with
      | nil => exact absurd h this
      | cons a b => simp
    have hrs := rep_size hx hr
    clear hss hp
    go_wp2_with fail
    go_loopw [6] (fun i wr => ∃ k : Nat, k ≤ ss.length - 1 ∧ i = .int .i64 k ∧ wr.ownsRow w.heap.size 9 1 (.slice (some ⟨g, 0, none⟩) ss.length cap) ss.length (sv (repTo (put r) ss k)) ∧ Below w.heap.size w wr) (fun i _ => ss.length - (intOf i).toNat)
    case atStart => exact ⟨0, by omega, rfl, by rw [repTo_zero]; exact hown, b1⟩
    case round =>
      obtain ⟨k, hk, rfl, hown', hbel⟩ := hrel
      by_cases hlt : k < ss.length - 1
      · have hks : k < ss.length := by omega
        have hcell : wr.cell? ⟨g, k, none⟩ = some (.string ss[k]) := by
          rw [World.ownsRow.cellAt hown' k (by omega)]
          unfold sv
          rw [List.getElem?_map, List.getElem?_eq_getElem (by rw [repTo_len]; exact hks), repTo_at _ _ _ hks]
          rfl
        have hfz := World.ownsRow.frozenAt hown' k
        have hgb : w.heap.size ≤ g := (World.ownsRow.lt hown' g rfl).1
        have hnext := repTo_next (put r) ss k hks
        have hsame := repTo_same (put r) ss k hks
        generalize ss[k] = x at *
        cases hv : x.toList == [118, 101, 110, 100, 111, 114]
        · have hne : put r x = x := by
            unfold put
            rw [if_neg]
            rintro rfl
            rw [vendor_list] at hv
            exact absurd hv (by decide)
          have HS := Lib.hid (hsame hne)
          clear hnext hsame hne
          go_wp2_with fail
          go_roundw
          case rel => exact ⟨k + 1, by omega, by go_num, by rw [HS.out]; exact hown', hbel⟩
          case measure => simp [intOf]; omega
        · have he : put r x = r := by
            unfold put
            rw [if_pos]
            exact bytes_eq (by rw [vendor_list]; simpa using hv)
          rw [he] at hnext
          have hst := (World.ownsRow.stored hown' k (.string r)).1
          have e2 : (sv (repTo (put r) ss k)).set k (.string r) = sv (repTo (put r) ss (k + 1)) := by
            rw [← hnext]; unfold sv; rw [List.map_set]
          rw [e2] at hst
          clear hnext hsame he e2
          go_wp2_with fail
          go_roundw
          case rel => exact ⟨k + 1, by omega, by go_num, hst, hbel.setCell hgb _⟩
          case measure => simp [intOf]; omega
      · have hk' : k = ss.length - 1 := by omega
        subst hk'
        have HL : Hid ((repTo (put r) ss (ss.length - 1)).length = ss.length) := Lib.hid (repTo_len _ _ _)
        generalize hz : repTo (put r) ss (ss.length - 1) = zs at *
        clear hz
        have HZ := HL.out
        rw [← HZ] at hown'
        go_wp2_with fail
        rw [← HZ]
        refine (strJoin_any hown' (by rw [HFin.out]; omega) (by omega)).mono ?_
        rintro e w2 ⟨rfl, b2⟩
        rw [HFin.out]
        have B2 : Below w.heap.size w w2 := hbel.trans (b2.mono hbel.size)
        clear b2 HZ
        go_wp2_with fail
        go_ret
        exact ⟨rfl, B2⟩

set_option maxHeartbeats 2000000 in
theorem replaced_any (x r : ByteArray) (hx : x.size ≤ 1048576) (hr : r.size ≤ 1048576) (w : World) :
    Calls Try.prog 15 #[.string x, .string r] w fun e w' => e = .returned (.string (rep x r)) ∧ Below w.heap.size w w' := by
  go_enter Try.func15, Try.ntmps15
  go_wp2_with fail
  refine (split_any x _ 47 rfl (by omega) _).mono ?_
  rintro e w1 ⟨g, cap, ss, rfl, hp, hown, b1⟩
  have hss : ss = toB (spl 47 x.data.toList) := by rw [← hp, toB_data]
  have HFin : Hid (joinB sl (repTo (put r) ss (ss.length - 1)) = rep x r) := Lib.hid <| by unfold rep reps; rw [hss, toB_len]
  have HM : Hid (∀ s ∈ repTo (put r) ss (ss.length - 1), s.size ≤ 1048576) := Lib.hid <| by rw [hss]; exact reps_size hx hr
  have hlen : ss.length ≤ 1048577 := by rw [hss, toB_len]; have := spl_len 47 x.data.toList; rw [← size_list] at this; omega
  have hpos : 0 < ss.length := by
    rw [hss, toB_len]
    have := spl_ne 47 x.data.toList
    cases h : spl 47 x.data.toList with
    | nil => exact absurd h this
    | cons a b => simp
  clear hss hp
  go_wp2_with fail
  go_loopw [12] (fun i wr => ∃ k : Nat, k ≤ ss.length - 1 ∧ i = .int .i64 k ∧ wr.ownsRow w.heap.size 9 1 (.slice (some ⟨g, 0, none⟩) ss.length cap) ss.length (sv (repTo (put r) ss k)) ∧ Below w.heap.size w wr) (fun i _ => ss.length - (intOf i).toNat)
  case atStart => exact ⟨0, by omega, rfl, by rw [repTo_zero]; exact hown, b1⟩
  case round =>
    obtain ⟨k, hk, rfl, hown', hbel⟩ := hrel
    by_cases hlt : k < ss.length - 1
    · have hks : k < ss.length := by omega
      have hcell : wr.cell? ⟨g, k, none⟩ = some (.string ss[k]) := by
        rw [World.ownsRow.cellAt hown' k (by omega)]
        unfold sv
        rw [List.getElem?_map, List.getElem?_eq_getElem (by rw [repTo_len]; exact hks), repTo_at _ _ _ hks]
        rfl
      have hfz := World.ownsRow.frozenAt hown' k
      have hgb : w.heap.size ≤ g := (World.ownsRow.lt hown' g rfl).1
      have hnext := repTo_next (put r) ss k hks
      have hsame := repTo_same (put r) ss k hks
      generalize ss[k] = x at *
      cases hv : x.toList == [118, 101, 110, 100, 111, 114]
      · have hne : put r x = x := by
          unfold put
          rw [if_neg]
          rintro rfl
          rw [vendor_list] at hv
          exact absurd hv (by decide)
        have HS := Lib.hid (hsame hne)
        clear hnext hsame hne
        go_wp2_with fail
        go_roundw
        case rel => exact ⟨k + 1, by omega, by go_num, by rw [HS.out]; exact hown', hbel⟩
        case measure => simp [intOf]; omega
      · have he : put r x = r := by
          unfold put
          rw [if_pos]
          exact bytes_eq (by rw [vendor_list]; simpa using hv)
        rw [he] at hnext
        have hst := (World.ownsRow.stored hown' k (.string r)).1
        have e2 : (sv (repTo (put r) ss k)).set k (.string r) = sv (repTo (put r) ss (k + 1)) := by
          rw [← hnext]; unfold sv; rw [List.map_set]
        rw [e2] at hst
        clear hnext hsame he e2
        go_wp2_with fail
        go_roundw
        case rel => exact ⟨k + 1, by omega, by go_num, hst, hbel.setCell hgb _⟩
        case measure => simp [intOf]; omega
    · have hk' : k = ss.length - 1 := by omega
      subst hk'
      have HL : Hid ((repTo (put r) ss (ss.length - 1)).length = ss.length) := Lib.hid (repTo_len _ _ _)
      generalize hz : repTo (put r) ss (ss.length - 1) = zs at *
      clear hz
      have HZ := HL.out
      rw [← HZ] at hown'
      have hst := own_strs hown' (fun s hs => by have := HM.out s hs; unfold maxLen; omega)
      go_wp2_with fail
      rw [← HZ]
      refine (join_any _ zs sl _ _ hst (by unfold maxLen; omega) 1048576 HM.out (by rw [HZ]; have h3 : sl.size = 1 := rfl; rw [h3]; have h4 : ss.length * (1048576 + 1) ≤ 1048577 * (1048576 + 1) := Nat.mul_le_mul_right _ hlen; unfold maxLen; omega)).mono ?_
      rintro e w2 ⟨rfl, rfl⟩
      rw [HFin.out]
      clear HZ
      go_wp2_with fail
      go_ret
      exact ⟨rfl, hbel⟩

end Go.Proofs.Ytdapcnhgbmicoaa
