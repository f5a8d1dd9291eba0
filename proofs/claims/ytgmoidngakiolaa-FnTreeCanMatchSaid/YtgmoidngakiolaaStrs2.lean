/-
  Same, IsPrefix, Join: their plain words and walks.
-/
import Derived.Test.YtgmoidngakiolaaStrs
import Derived.Deep.Draws
namespace Go.Proofs.Ytgmoidngakiolaa
open Go.RowKit
set_option linter.unusedVariables false
set_option linter.unusedSimpArgs false

theorem bytes_eq {a b : ByteArray} (h : a.toList = b.toList) : a = b := by
  rw [Lib.toList_data, Lib.toList_data] at h
  exact WideShapes.bytes_inj h

def Drawn (w w' : World) : Prop := ∃ n, w' = w.drewN n
theorem Drawn.refl (w : World) : Drawn w w := ⟨0, rfl⟩
theorem Drawn.more {w w' : World} (h : Drawn w w') (n : Nat) : Drawn w (w'.drewN n) := by
  obtain ⟨m, rfl⟩ := h; exact ⟨m + n, by simp⟩
theorem Drawn.trans {w w' w'' : World} (h : Drawn w w') (h' : Drawn w' w'') : Drawn w w'' := by
  obtain ⟨m, rfl⟩ := h'; exact h.more m
theorem Drawn.below {w w' : World} (h : Drawn w w') : Below w.heap.size w w' := by
  obtain ⟨n, rfl⟩ := h; exact below_drewN (Below.refl _ _) n
theorem Drawn.strs {w w' : World} {A : Option Addr} {ss : List ByteArray} (h : Drawn w w') (hs : Strs w A ss) : Strs w' A ss := by
  obtain ⟨n, rfl⟩ := h; exact hs

def same (xs ys : List ByteArray) : Bool := decide (xs = ys)
theorem same_len {xs ys : List ByteArray} (h : xs.length ≠ ys.length) : same xs ys = false := by
  unfold same; rw [decide_eq_false_iff_not]; intro e; exact h (by rw [e])
theorem same_not {xs ys : List ByteArray} {k : Nat} (h1 : k < xs.length) (h2 : k < ys.length) (h : xs[k] ≠ ys[k]) : same xs ys = false := by
  unfold same; rw [decide_eq_false_iff_not]; intro e; subst e; exact h rfl
theorem same_yes {xs ys : List ByteArray} {k : Nat} (h1 : xs.length ≤ k) (h2 : ys.length ≤ k) (h : xs.take k = ys.take k) : same xs ys = true := by
  unfold same; rw [decide_eq_true_eq]; rwa [List.take_of_length_le h1, List.take_of_length_le h2] at h
theorem same_step {xs ys : List ByteArray} {k : Nat} (h1 : k < xs.length) (h2 : k < ys.length) (h : xs.take k = ys.take k) (e : xs[k] = ys[k]) : xs.take (k + 1) = ys.take (k + 1) := by
  rw [take_snoc_l xs k h1, take_snoc_l ys k h2, h, e]

theorem same_any (A B : Option Addr) (xs ys : List ByteArray) (cap cap' : Nat) (w : World) (hx : Strs w A xs) (hy : Strs w B ys) (lx : xs.length ≤ maxLen) (ly : ys.length ≤ maxLen) :
    Calls Try.prog 23 #[.slice A xs.length cap, .slice B ys.length cap'] w fun e w' => e = .returned (.bool (same xs ys)) ∧ Drawn w w' := by
  unfold maxLen at lx ly
  by_cases hl : xs.length = ys.length
  · have HL := Lib.hid hl
    have e0 : (((xs.length : Nat) : Int) != ((ys.length : Nat) : Int)) = false := by simp [hl]
    have hle : xs.length ≤ ys.length := by omega
    have hge : ys.length ≤ xs.length := by omega
    clear hl
    go_enter Try.func23, Try.ntmps23
    go_wp2
    go_loopw [13] (fun i wr => ∃ k : Nat, k ≤ xs.length ∧ i = .int .i64 k ∧ Drawn w wr ∧ xs.take k = ys.take k) (fun i _ => xs.length - (intOf i).toNat)
    case atStart => exact ⟨0, Nat.zero_le _, rfl, Drawn.refl _, by simp⟩
    case round =>
      obtain ⟨k, hk, rfl, hdr, hpre⟩ := hrel
      have HP := Lib.hid hpre; clear hpre
      obtain ⟨nd, rfl⟩ := hdr
      by_cases hlt : k < xs.length
      · obtain ⟨b, off, rfl, hb, hc⟩ := hx.2 (by omega)
        obtain ⟨b', off', rfl, hb', hc'⟩ := hy.2 (by omega)
        have hck := hc k hlt
        have hck' := hc' k (by omega)
        clear hc hc' hx hy
        have hk0 : (0 : Int) ≤ (k : Int) := by omega
        have hk1 : (k : Int) < (xs.length : Int) := by omega
        have hk2 : (k : Int) < (ys.length : Int) := by omega
        generalize hxx : xs[k] = x at *
        generalize hyy : ys[k]'(by omega) = y at *
        have HX := Lib.hid hxx; clear hxx
        have HY := Lib.hid hyy; clear hyy
        cases hxy : x.toList == y.toList
        · have hne : Hid (x ≠ y) := Lib.hid <| by intro e; subst e; simp at hxy
          go_wp2
          go_quiet (fail)
          go_wp2
          go_ret
          exact ⟨ret_bool (same_not hlt (by omega) (by rw [HX.out, HY.out]; exact hne.out)).symm, Drawn.more ⟨_, rfl⟩ _⟩
        · have heq : Hid (x = y) := Lib.hid <| bytes_eq (by simpa using hxy)
          go_wp2
          go_quiet (fail)
          go_wp2
          go_roundw
          case rel => exact ⟨k + 1, by omega, by go_num, ⟨_, rfl⟩, same_step hlt (by omega) HP.out (by rw [HX.out, HY.out]; exact heq.out)⟩
          case measure => simp [intOf]; omega
      · go_wp2
        go_ret
        exact ⟨ret_bool (same_yes (by omega) (by omega) HP.out).symm, ⟨_, rfl⟩⟩
  · have e0 : (((xs.length : Nat) : Int) != ((ys.length : Nat) : Int)) = true := by simp; omega
    have HE := Lib.hid (same_len hl)
    clear hl
    go_enter Try.func23, Try.ntmps23
    go_wp2
    go_ret
    exact ⟨ret_bool HE.out.symm, Drawn.refl _⟩

theorem same_anyN (A B : Option Addr) (n m : Nat) (xs ys : List ByteArray) (hn : xs.length = n) (hm : ys.length = m) (cap cap' : Nat) (w : World) (hx : Strs w A xs) (hy : Strs w B ys) (lx : xs.length ≤ maxLen) (ly : ys.length ≤ maxLen) :
    Calls Try.prog 23 #[.slice A n cap, .slice B m cap'] w fun e w' => e = .returned (.bool (same xs ys)) ∧ Drawn w w' := by
  subst hn hm
  exact same_any A B xs ys cap cap' w hx hy lx ly

/-! ### Join -/
/-- Lists one behind the other with a sign between them. -/
def jl (sep : List UInt8) : List (List UInt8) → List UInt8
  | [] => []
  | [x] => x
  | x :: y :: r => x ++ sep ++ jl sep (y :: r)
theorem jl_snoc (sep : List UInt8) (xs : List (List UInt8)) (x : List UInt8) (h : xs ≠ []) : jl sep (xs ++ [x]) = jl sep xs ++ sep ++ x := by
  induction xs with
  | nil => exact absurd rfl h
  | cons a r ih =>
    cases r with
    | nil => simp [jl]
    | cons b r' =>
      have := ih (by simp)
      simp only [List.cons_append] at this ⊢
      rw [jl, this, jl]
      simp
def joinB (sep : ByteArray) (ss : List ByteArray) : ByteArray := ⟨(jl sep.data.toList (ss.map fun s => s.data.toList)).toArray⟩
theorem joinB_data (sep : ByteArray) (ss : List ByteArray) : (joinB sep ss).data.toList = jl sep.data.toList (ss.map fun s => s.data.toList) := by
  unfold joinB; simp
theorem joinB_nil (sep : ByteArray) : joinB sep [] = ⟨#[]⟩ := rfl
theorem joinB_first (sep : ByteArray) (ss : List ByteArray) (h : 0 < ss.length) : joinB sep (ss.take 1) = ss[0] := by
  apply WideShapes.bytes_inj
  rw [joinB_data]
  cases ss with
  | nil => simp at h
  | cons a r => simp [jl]
theorem joinB_next (sep : ByteArray) (ss : List ByteArray) (k : Nat) (h : k < ss.length) (h0 : 0 < k) : joinB sep (ss.take (k + 1)) = joinB sep (ss.take k) ++ sep ++ ss[k] := by
  apply WideShapes.bytes_inj
  rw [joinB_data, take_snoc_l ss k h, List.map_append, List.map_singleton, jl_snoc _ _ _ (by intro e; have := congrArg List.length e; rw [List.length_map, List.length_take, List.length_nil] at this; omega)]
  simp [ByteArray.data_append, joinB_data]

theorem jl_size (sep : List UInt8) (M : Nat) : ∀ xs : List (List UInt8), (∀ x ∈ xs, x.length ≤ M) → (jl sep xs).length ≤ xs.length * (M + sep.length)
  | [], _ => by simp [jl]
  | [x], h => by have := h x (by simp); simp [jl]; omega
  | x :: y :: r, h => by
    have h1 := h x (by simp)
    have h2 := jl_size sep M (y :: r) (fun z hz => h z (List.mem_cons_of_mem _ hz))
    rw [jl]
    simp only [List.length_append, List.length_cons] at h2 ⊢
    have e : (r.length + 1 + 1) * (M + sep.length) = (r.length + 1) * (M + sep.length) + (M + sep.length) := Nat.succ_mul _ _
    rw [e]
    omega
theorem joinB_size (sep : ByteArray) (ss : List ByteArray) (M : Nat) (h : ∀ s ∈ ss, s.size ≤ M) : (joinB sep ss).size ≤ ss.length * (M + sep.size) := by
  have := jl_size sep.data.toList M (ss.map fun s => s.data.toList) (by
    intro x hx
    obtain ⟨s, hs, rfl⟩ := List.mem_map.1 hx
    simpa using h s hs)
  rw [size_list, joinB_data]
  simpa using this
theorem joinB_take_size (sep : ByteArray) (ss : List ByteArray) (M k : Nat) (h : ∀ s ∈ ss, s.size ≤ M) (hk : k ≤ ss.length) (hb : ss.length * (M + sep.size) ≤ maxLen) : (joinB sep (ss.take k)).size ≤ maxLen := by
  have h1 := joinB_size sep (ss.take k) M (fun s hs => h s (List.mem_of_mem_take hs))
  have h2 : (ss.take k).length * (M + sep.size) ≤ ss.length * (M + sep.size) := Nat.mul_le_mul_right _ (by simp; omega)
  omega

theorem nil_append_b (x : ByteArray) : (⟨#[]⟩ : ByteArray) ++ x = x := WideShapes.bytes_inj (by simp [ByteArray.data_append])

theorem ret_string {a b : ByteArray} (h : a = b) : Ending.returned (.string a) = .returned (.string b) := by rw [h]

theorem join_any (A : Option Addr) (ss : List ByteArray) (sep : ByteArray) (cap : Nat) (w : World) (hs : Strs w A ss) (hl : ss.length ≤ maxLen) (M : Nat) (hM : ∀ s ∈ ss, s.size ≤ M) (hB : ss.length * (M + sep.size) ≤ maxLen) :
    Calls Try.prog 16 #[.slice A ss.length cap, .string sep] w fun e w' => e = .returned (.string (joinB sep ss)) ∧ w = w' := by
  unfold maxLen at hl
  have HB := Lib.hid hB; clear hB
  have HM := Lib.hid hM; clear hM
  go_enter Try.func16, Try.ntmps16
  go_wp2
  go_loop [5, 10] (fun o i => ∃ k : Nat, k ≤ ss.length ∧ i = .int .i64 k ∧ o = .string (joinB sep (ss.take k))) (fun _ i => ss.length - (intOf i).toNat)
  case atStart => exact ⟨0, Nat.zero_le _, rfl, rfl⟩
  case round =>
    obtain ⟨k, hk, rfl, rfl⟩ := hrel
    by_cases hlt : k < ss.length
    · obtain ⟨b, off, rfl, hb, hc⟩ := hs.2 (by omega)
      have hck := hc k hlt
      by_cases h0 : 0 < k
      · have HN := Lib.hid (joinB_next sep ss k hlt h0)
        have hsz : (joinB sep (ss.take k)).size + sep.size + ss[k].size ≤ 9223372036854775807 := by
          have := joinB_take_size sep ss M (k + 1) HM.out (by omega) HB.out
          rw [HN.out, ByteArray.size_append, ByteArray.size_append] at this
          unfold maxLen at this; omega
        generalize hx : ss[k] = x at *
        generalize hj : joinB sep (ss.take k) = j at *
        clear hx hj hc hs
        go_wp2
        go_round
        case rel => exact ⟨k + 1, by omega, by go_num, by rw [HN.out]⟩
        case measure => simp [intOf]; omega
      · obtain rfl : k = 0 := by omega
        have hsz : ss[0].size ≤ 9223372036854775807 := by have := hs.1 ss[0] (List.getElem_mem hlt); unfold maxLen at this; omega
        have hck : w.cell? ⟨b, off, none⟩ = some (.string ss[0]) := by simpa using hc 0 hlt
        clear hc hs
        have HN := Lib.hid (joinB_first sep ss hlt)
        have HE : Hid (joinB sep (ss.take 0) = ⟨#[]⟩) := Lib.hid rfl
        generalize hx : ss[0] = x at *
        rw [HE.out]
        clear hx
        go_wp2
        go_round
        case rel => exact ⟨1, by omega, by go_num, by rw [HN.out, nil_append_b]⟩
        case measure => simp [intOf]; omega
    · go_wp2
      go_ret
      exact ⟨ret_string (by rw [List.take_of_length_le (by omega)]), rfl⟩

/-! ### IsPrefix -/
def isPre (p h : List ByteArray) : Bool := decide (h <+: p)
theorem isPre_lt {p h : List ByteArray} (hl : p.length < h.length) : isPre p h = false := by
  unfold isPre; rw [decide_eq_false_iff_not]; intro hp; have := hp.length_le; omega
theorem isPre_same (p h : List ByteArray) : same (p.take h.length) h = isPre p h := by
  unfold isPre same
  rw [Bool.eq_iff_iff]
  simp only [decide_eq_true_eq]
  constructor
  · intro e; rw [← e]; exact List.take_prefix _ _
  · intro e; exact (List.prefix_iff_eq_take.1 e).symm

theorem isPrefix_any (A B : Option Addr) (xs ys : List ByteArray) (cap cap' : Nat) (w : World) (hx : Strs w A xs) (hy : Strs w B ys) (lx : xs.length ≤ maxLen) (ly : ys.length ≤ maxLen) (hcap : xs.length ≤ cap) (hcm : cap ≤ maxLen) :
    Calls Try.prog 15 #[.slice A xs.length cap, .slice B ys.length cap'] w fun e w' => e = .returned (.bool (isPre xs ys)) ∧ Drawn w w' := by
  have ly' := ly
  have lx' := lx
  unfold maxLen at lx ly hcm
  by_cases hl : xs.length < ys.length
  · have HE := Lib.hid (isPre_lt hl)
    go_enter Try.func15, Try.ntmps15
    go_wp2
    go_ret
    exact ⟨ret_bool HE.out.symm, Drawn.refl _⟩
  · have ht := hx.takeN ys.length
    have hlen : Hid ((xs.take ys.length).length = ys.length) := Lib.hid <| by simp; omega
    have hlx : (xs.take ys.length).length ≤ maxLen := by unfold maxLen; simp; omega
    have HE := Lib.hid (isPre_same xs ys)
    generalize hz : xs.take ys.length = zs at *
    clear hz
    go_enter Try.func15, Try.ntmps15
    go_wp2_with (go_at_call 23; refine (same_anyN _ _ _ _ zs ys hlen.out rfl _ _ _ ht hy hlx ly').mono ?_; rintro e w' ⟨rfl, hd⟩; rw [HE.out])
    go_ret
    exact ⟨rfl, hd⟩

end Go.Proofs.Ytgmoidngakiolaa
