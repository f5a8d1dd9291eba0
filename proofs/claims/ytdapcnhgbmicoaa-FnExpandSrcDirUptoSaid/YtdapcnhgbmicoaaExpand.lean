/-
  What expandSrcDir returns, and the walk of the law FnExpandSrcDir.
-/
import Derived.Test.YtdapcnhgbmicoaaSplitG
import Derived.Test.YtdapcnhgbmicoaaJn
import Derived.Test.YtdapcnhgbmicoaaJoin
import Derived.Test.YtdapcnhgbmicoaaSafeB
namespace Go.Proofs.Ytdapcnhgbmicoaa
open Go.RowKit
set_option linter.unusedVariables false
set_option linter.unusedSimpArgs false

theorem ret_sb {a a' : ByteArray} {b b' : Bool} (h : a = a') (h' : b = b') : Ending.returned (.tuple #[.string a, .bool b]) = .returned (.tuple #[.string a', .bool b']) := by rw [h, h']

def srcd : ByteArray := ⟨#[36, 123, 83, 82, 67, 68, 73, 82, 125]⟩
def sOk (p : ByteArray) : Bool := p.toList.isEmpty || safe p
def toBx (xs : List (List UInt8)) : List ByteArray := xs.map BA
theorem toBx_data (ss : List ByteArray) : toBx (ss.map fun s => s.data.toList) = ss := by
  unfold toBx
  rw [List.map_map]
  conv => rhs; rw [← List.map_id ss]
  apply List.map_congr_left
  intro s _
  exact WideShapes.bytes_inj (by simp [BA_data])
/-- The pieces of a text between the marks. -/
def pcs (x : ByteArray) : List ByteArray := toBx (splS srcd.data.toList x.data.toList)
def expT (x f : ByteArray) : ByteArray := if (pcs x).length < 2 then x else joinB f (pcs x)
def expO (x f : ByteArray) : Bool := if (pcs x).length < 2 then safe x else ((pcs x).all sOk && sOk f) && !(joinB f (pcs x)).toList.isEmpty
def ExpPost (w : World) (x f : ByteArray) (e : Ending) (w' : World) : Prop := e = .returned (.tuple #[.string (expT x f), .bool (expO x f)]) ∧ Below w.heap.size w w'

theorem strJoinS_any {w : World} {base g cap : Nat} {ss : List ByteArray} (f : ByteArray) (h : w.ownsRow base 9 1 (.slice (some ⟨g, 0, none⟩) ss.length cap) ss.length (sv ss)) (hlen : (joinB f ss).size ≤ 140737488355328) (hN : ss.length ≤ 140737488355328) :
    Calls Try.prog 40 #[.slice (some ⟨g, 0, none⟩) ss.length cap, .string f] w fun e w' => e = .returned (.string (joinB f ss)) ∧ Below w.heap.size w w' := by
  have hlt := (World.ownsRow.lt h g rfl).2
  have hcap : ss.length ≤ cap := by
    rcases h.2 with ⟨h', _⟩ | ⟨g', cap', cur, h', _, _, hnc, _⟩
    · simp at h'
    · simp only [Value.slice.injEq] at h'
      omega
  have hcells : ∀ (j : Nat) x, ss[j]? = some x → w.cell? ⟨g, 0 + j, none⟩ = some (.string x) := by
    intro j x hx
    have hj : j < ss.length := (List.getElem?_eq_some_iff.1 hx).1
    rw [Nat.zero_add, World.ownsRow.cellAt h j (by omega)]
    simp [sv, hx]
  have e : joinB f ss = ⟨(Lib.join (ss.map (·.data.toList)) f.data.toList).toArray⟩ := by
    unfold joinB
    rw [jl_lib]
  rw [e]
  refine strJoin g 0 cap ss f w hcells hlt hN hcap ?_
  rw [← jl_lib]
  have := hlen
  rw [size_list, joinB_data] at this
  exact this

theorem spF_len : ∀ (n : Nat) (sep l : List UInt8), (spF n sep l).length ≤ n + 1
  | 0, _, _ => by simp [spF]
  | n + 1, sep, l => by
    unfold spF
    split
    · simp
    · rename_i i _
      have := spF_len n sep (l.drop (i + sep.length)); simp only [List.length_cons]; omega
theorem pcs_len (x : ByteArray) : (pcs x).length ≤ x.size + 1 := by
  unfold pcs toBx
  rw [List.length_map, size_list]
  exact spF_len _ _ _
theorem pcs_pos (x : ByteArray) : 0 < (pcs x).length := by
  unfold pcs toBx splS
  rw [List.length_map]
  cases x.data.toList.length with
  | zero => simp [spF]
  | succ n => unfold spF; split <;> simp
theorem spF_size : ∀ (n : Nat) (sep l : List UInt8), ∀ p ∈ spF n sep l, p.length ≤ l.length
  | 0, _, l, p, hp => by simp [spF] at hp; rw [hp]; exact Nat.le_refl _
  | n + 1, sep, l, p, hp => by
    unfold spF at hp
    split at hp
    · simp at hp; rw [hp]; exact Nat.le_refl _
    · rcases List.mem_cons.1 hp with rfl | hp
      · simp; omega
      · have := spF_size n sep _ p hp; simp at this; omega
theorem pcs_size (x : ByteArray) : ∀ p ∈ pcs x, p.size ≤ x.size := by
  intro p hp
  unfold pcs toBx at hp
  obtain ⟨l, hl, rfl⟩ := List.mem_map.1 hp
  rw [BA_size, size_list]
  exact spF_size _ _ _ l hl
theorem sOk_empty {p : ByteArray} (h : p.toList.isEmpty = true) : sOk p = true := by unfold sOk; rw [h]; rfl
theorem sOk_other {p : ByteArray} (h : p.toList.isEmpty = false) : sOk p = safe p := by unfold sOk; rw [h]; rfl

set_option maxHeartbeats 4000000 in
set_option maxRecDepth 100000 in
theorem expand_any (x f : ByteArray) (hx : x.size ≤ 70368744177664 / 16) (hf : f.size ≤ maxLen) (hj : (joinB f (pcs x)).size ≤ 140737488355328) (w : World) :
    Calls Try.prog 30 #[.string x, .string f] w (ExpPost w x f) := by
  have hxm : x.size ≤ maxLen := by unfold maxLen; omega
  have hpl := pcs_len x
  have hpp := pcs_pos x
  have HPS := Lib.hid (pcs_size x)
  have HJ := Lib.hid hj; clear hj
  have HT : Hid (expT x f = if (pcs x).length < 2 then x else joinB f (pcs x)) := Lib.hid rfl
  have HO : Hid (expO x f = if (pcs x).length < 2 then safe x else ((pcs x).all sOk && sOk f) && !(joinB f (pcs x)).toList.isEmpty) := Lib.hid rfl
  go_enter Try.func30, Try.ntmps30
  go_wp2_with fail
  refine (zzSplitG_any x srcd (by omega) (by decide) (by decide) _).mono ?_
  rintro e w1 ⟨g, cap, ss, rfl, hp, hown, b1⟩
  have hss : ss = pcs x := by unfold pcs; rw [← hp, toBx_data]
  rw [← hss] at hpl hpp HPS HJ HT HO
  clear hss hp
  by_cases h2 : ss.length < 2
  · have HT2 : Hid (expT x f = x) := Lib.hid <| by rw [HT.out, if_pos h2]
    have HO2 : Hid (expO x f = safe x) := Lib.hid <| by rw [HO.out, if_pos h2]
    clear HT HO
    go_wp2_with fail
    refine (safe_any x hxm _).mono ?_; rintro e w' ⟨rfl, rfl⟩
    go_wp2_with fail
    go_ret2
    exact ⟨ret_sb HT2.out.symm HO2.out.symm, b1⟩
  · have HT2 : Hid (expT x f = joinB f ss) := Lib.hid <| by rw [HT.out, if_neg h2]
    have HO2 : Hid (expO x f = ((ss.all sOk && sOk f) && !(joinB f ss).toList.isEmpty)) := Lib.hid <| by rw [HO.out, if_neg h2]
    clear HT HO
    go_wp2_with fail
    have hst := own_strs hown (fun s hs => Nat.le_trans (HPS.out s hs) hxm)
    go_loop [7, 22] (fun o i => ∃ k : Nat, k ≤ ss.length ∧ i = .int .i64 k ∧ o = .bool ((ss.take k).all sOk)) (fun _ i => ss.length - (intOf i).toNat)
    case atStart => exact ⟨0, Nat.zero_le _, rfl, rfl⟩
    case round =>
      obtain ⟨k, hk, rfl, rfl⟩ := hrel
      by_cases hlt : k < ss.length
      · have hcell : w1.cell? ⟨g, k, none⟩ = some (.string ss[k]) := by
          rw [World.ownsRow.cellAt hown k (by omega)]
          simp [sv, hlt]
        have hsz : ss[k].size ≤ maxLen := Nat.le_trans (HPS.out _ (List.getElem_mem hlt)) hxm
        have hnx : (ss.take (k + 1)).all sOk = ((ss.take k).all sOk && sOk ss[k]) := by rw [take_snoc_l ss k hlt, List.all_append]; simp
        generalize hp : ss[k] = p at *
        generalize ha : (ss.take k).all sOk = a at *
        have HN := Lib.hid hnx
        clear hp ha hnx
        cases a
        · go_wp2_with fail
          go_round
          case rel => exact ⟨k + 1, by omega, by go_num, by rw [HN.out]; rfl⟩
          case measure => simp [intOf]; omega
        · cases hem : p.toList.isEmpty
          · have HE := Lib.hid (sOk_other hem)
            go_wp2_with fail
            refine (safe_any p hsz _).mono ?_; rintro e w' ⟨rfl, rfl⟩
            go_wp2_with fail
            go_round
            case rel => exact ⟨k + 1, by omega, by go_num, by rw [HN.out, HE.out]; simp⟩
            case measure => simp [intOf]; omega
          · have HE := Lib.hid (sOk_empty hem)
            go_wp2_with fail
            go_round
            case rel => exact ⟨k + 1, by omega, by go_num, by rw [HN.out, HE.out]; rfl⟩
            case measure => simp [intOf]; omega
      · have hkl : k = ss.length := by omega
        subst hkl
        rw [List.take_length]
        generalize ss.all sOk = a at *
        have hN : ss.length ≤ 140737488355328 := by omega
        cases a
        · go_wp2_with fail
          refine (strJoinS_any f hown HJ.out hN).mono ?_
          rintro e w2 ⟨rfl, b2⟩
          have B2 : Below w.heap.size w w2 := b1.trans (b2.mono b1.size)
          clear b2
          go_wp2_with fail
          go_ret2
          exact ⟨ret_sb HT2.out.symm (by rw [HO2.out]; rfl), B2⟩
        · cases hem : f.toList.isEmpty
          · have HE := Lib.hid (sOk_other hem)
            go_wp2_with fail
            refine (safe_any f hf _).mono ?_; rintro e w' ⟨rfl, rfl⟩
            generalize hsf : safe f = sf at *
            have HSF := Lib.hid hsf; clear hsf
            cases sf
            all_goals
              go_wp2_with fail
              refine (strJoinS_any f hown HJ.out hN).mono ?_
              rintro e w2 ⟨rfl, b2⟩
              have B2 : Below w.heap.size w w2 := b1.trans (b2.mono b1.size)
              clear b2
              generalize hjj : joinB f ss = j at *
              go_wp2_with fail
              go_ret2
              exact ⟨ret_sb HT2.out.symm (by rw [HO2.out, HE.out]; simp), B2⟩
          · have HE := Lib.hid (sOk_empty hem)
            go_wp2_with fail
            refine (strJoinS_any f hown HJ.out hN).mono ?_
            rintro e w2 ⟨rfl, b2⟩
            have B2 : Below w.heap.size w w2 := b1.trans (b2.mono b1.size)
            clear b2
            generalize hjj : joinB f ss = j at *
            go_wp2_with fail
            go_ret2
            exact ⟨ret_sb HT2.out.symm (by rw [HO2.out, HE.out]; simp), B2⟩

end Go.Proofs.Ytdapcnhgbmicoaa
