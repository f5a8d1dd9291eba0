/-
  A slice of bytes that reads as a list; the walks of bytes.Equal, bytes.HasPrefix and of the constants of package build.
-/
import Derived.Test.YtdapcnhgbmicoaaRows
import Derived.Test.YtdapcnhgbmicoaaMem
import Derived.WalkSpells
import Derived.WalkLawsBesides
import Derived.WalkSmall
import Derived.Test.YtdapcnhgbmicoaaFi
import Derived.Laws.IdiomStrings
import Derived.Lib.SlBytesConst
import Derived.LoopTactic
import Derived.Deep.QuietTactic
import Derived.BigQuiet
namespace Go.Proofs.Ytdapcnhgbmicoaa
open Go.RowKit
set_option linter.unusedVariables false
set_option linter.unusedSimpArgs false

theorem ret_bool {a b : Bool} (h : a = b) : Ending.returned (.bool a) = .returned (.bool b) := by rw [h]
theorem ret_int {k : IntKind} {a b : Int} (h : a = b) : Ending.returned (.int k a) = .returned (.int k b) := by rw [h]
theorem ret_string {a b : ByteArray} (h : a = b) : Ending.returned (.string a) = .returned (.string b) := by rw [h]
theorem bytes_eq {a b : ByteArray} (h : a.toList = b.toList) : a = b := by
  rw [Lib.toList_data, Lib.toList_data] at h
  exact WideShapes.bytes_inj h

def Drawn (w w' : World) : Prop := ∃ n, w' = w.drewN n
theorem Drawn.refl (w : World) : Drawn w w := ⟨0, rfl⟩
theorem Drawn.more {w w' : World} (h : Drawn w w') (n : Nat) : Drawn w (w'.drewN n) := by
  obtain ⟨m, rfl⟩ := h; exact ⟨m + n, by simp⟩
theorem Drawn.trans {w w' w'' : World} (h : Drawn w w') (h' : Drawn w' w'') : Drawn w w'' := by
  obtain ⟨m, rfl⟩ := h'; exact h.more m
theorem Drawn.below {w w' : World} (h : Drawn w w') : Below w.heap.size w w' := by
  obtain ⟨n, rfl⟩ := h; exact below_drewN (Below.refl _ _) n

/-- Bytes as cells. -/
def bv (l : List UInt8) : List Value := l.map fun b => Value.int .u8 (b.toNat : Int)
theorem bv_len (l : List UInt8) : (bv l).length = l.length := by unfold bv; simp
/-- The slice of bytes that begins at A reads as a list. -/
def Bts (w : World) (A : Option Addr) (l : List UInt8) : Prop := Reads w w.heap.size 1 A l.length (bv l)

section
variable {w w' : World} {A : Option Addr} {l : List UInt8}
theorem Bts.nil_ (w : World) (A : Option Addr) : Bts w A [] := ⟨by simp [bv], fun h => by simp at h⟩
theorem Bts.below (h : Bts w A l) (hb : Below w.heap.size w w') : Bts w' A l := (Reads.below h hb).more hb.size
theorem Bts.drewN (h : Bts w A l) (n : Nat) : Bts (w.drewN n) A l := h
theorem Bts.drawn (h : Bts w A l) (hd : Drawn w w') : Bts w' A l := by obtain ⟨n, rfl⟩ := hd; exact h
theorem Bts.at_ {k : Nat} (h : Bts w A l) (hk : k < l.length) : ∃ b off, A = some ⟨b, off, none⟩ ∧ b < w.heap.size ∧ ∀ i (hi : i < l.length), w.cell? ⟨b, off + i, none⟩ = some (.int .u8 (l[i].toNat : Int)) := by
  obtain ⟨ad, e, hb, hc⟩ := h.2 (by omega)
  have h0 := hc 0 _ (List.getElem?_eq_getElem (by rw [bv_len]; omega))
  obtain ⟨b, off, spot⟩ := ad
  have hspot : spot = none := by simpa [Addr.add] using World.cell?_spot h0
  subst hspot
  refine ⟨b, off, e, hb, fun i hi => ?_⟩
  have h1 := hc i _ (List.getElem?_eq_getElem (by rw [bv_len]; omega))
  rw [Go.WideShapes.add_plain] at h1
  rw [h1]
  simp [bv]
theorem Bts.mk_ {b off : Nat} (hb : b < w.heap.size) (hc : ∀ i (hi : i < l.length), w.cell? ⟨b, off + i, none⟩ = some (.int .u8 (l[i].toNat : Int))) : Bts w (some ⟨b, off, none⟩) l := by
  refine ⟨by rw [bv_len]; omega, fun _ => ⟨_, rfl, hb, fun j u hu => ?_⟩⟩
  have hj : j < l.length := by have := (List.getElem?_eq_some_iff.1 hu).1; rwa [bv_len] at this
  rw [Go.WideShapes.add_plain, hc j hj, ← hu]
  simp [bv, hj]
theorem Bts.cut (h : Bts w A l) {k cap : Nat} (hk : k ≤ l.length) (hc : l.length ≤ cap) : Bts w (if cap = k then A else A.map (·.add k)) (l.drop k) := by
  have := Reads.cut (k := k) (cap := cap) h hk hc
  unfold Bts
  rw [Nat.mul_one] at this
  have e : bv (l.drop k) = (bv l).drop k := by unfold bv; rw [List.map_drop]
  rw [e, List.length_drop]
  exact this
theorem Bts.takeN (h : Bts w A l) (k : Nat) : Bts w A (l.take k) := by
  rcases Nat.eq_zero_or_pos (l.take k).length with h0 | h0
  · rw [List.eq_nil_of_length_eq_zero h0]; exact Bts.nil_ _ _
  · have hl : (l.take k).length ≤ l.length := by simp; omega
    obtain ⟨b, off, rfl, hb, hc⟩ := h.at_ (k := 0) (by omega)
    exact Bts.mk_ hb fun i hi => by rw [hc i (by omega)]; simp
theorem Bts.conv {P : Program} {src dst e : TypeId} (h : Bts w A l) (hs : P.underlying src = some (.slice e)) (he : P.underlying e = some (.int .u8)) (hd : P.underlying dst = some .string) (c : Nat) :
    (convert src dst (.slice A l.length c)).run P w = .ok (.string ⟨l.toArray⟩) w := by
  cases l with
  | nil =>
    cases A with
    | none => exact run_convert_bytes_nil w src e hs he 0 c dst hd
    | some a => exact run_convert_bytes_back w src dst e a c [] hs he hd (fun j hj => by simp at hj)
  | cons x r =>
    obtain ⟨b, off, rfl, hb, hc⟩ := h.at_ (k := 0) (by simp)
    exact run_convert_bytes_back w src dst e _ c (x :: r) hs he hd (fun j hj => by rw [Go.WideShapes.add_plain]; exact hc j hj)
end

theorem bytesEqual_any (A B : Option Addr) (n m c d : Nat) (xs ys : List UInt8) (hn : xs.length = n) (hm : ys.length = m) (w : World) (hx : Bts w A xs) (hy : Bts w B ys) :
    Calls Try.prog 43 #[.slice A n c, .slice B m d] w fun e w' => e = .returned (.bool (xs == ys)) ∧ w = w' := by
  subst hn hm
  have h1 := hx.conv (P := Try.prog) (src := 26) (dst := 9) Try.underlying26 Try.underlying5 Try.underlying9 c
  have h2 := hy.conv (P := Try.prog) (src := 26) (dst := 9) Try.underlying26 Try.underlying5 Try.underlying9 d
  clear hx hy
  go_enter Try.func43, Try.ntmps43
  go_wp2
  go_ret
  exact ⟨rfl, rfl⟩

def pre (l p : List UInt8) : Bool := decide (p <+: l)
theorem pre_lt {l p : List UInt8} (h : l.length < p.length) : pre l p = false := by
  unfold pre; rw [decide_eq_false_iff_not]; intro hp; have := hp.length_le; omega
theorem pre_take (l p : List UInt8) : (l.take p.length == p) = pre l p := by
  unfold pre
  rw [Bool.eq_iff_iff]
  simp only [beq_iff_eq, decide_eq_true_eq]
  constructor
  · intro e; rw [← e]; exact List.take_prefix _ _
  · intro e; exact (List.prefix_iff_eq_take.1 e).symm

theorem bytesHasPrefix_any (A B : Option Addr) (n m c d : Nat) (xs ys : List UInt8) (hn : xs.length = n) (hm : ys.length = m) (w : World) (hx : Bts w A xs) (hy : Bts w B ys) (hc : n ≤ c) (hcm : c ≤ maxLen) (hmm : m ≤ maxLen) :
    Calls Try.prog 32 #[.slice A n c, .slice B m d] w fun e w' => e = .returned (.bool (pre xs ys)) ∧ w = w' := by
  unfold maxLen at hcm hmm
  have HN := Lib.hid hn; clear hn
  have HM := Lib.hid hm; clear hm
  by_cases hl : n < m
  · have HE := Lib.hid (pre_lt (l := xs) (p := ys) (by rw [HN.out, HM.out]; exact hl))
    go_enter Try.func32, Try.ntmps32
    go_wp2
    go_ret
    exact ⟨ret_bool HE.out.symm, rfl⟩
  · have ht := hx.takeN ys.length
    have hlen : Hid ((xs.take ys.length).length = m) := Lib.hid <| by have := HN.out; have := HM.out; simp; omega
    have HE := Lib.hid (pre_take xs ys)
    generalize hz : xs.take ys.length = zs at *
    clear hz
    go_enter Try.func32, Try.ntmps32
    go_wp2_with (go_at_call 43; refine (bytesEqual_any _ _ _ _ _ _ zs ys hlen.out HM.out _ ht hy).mono ?_; rintro e w' ⟨rfl, rfl⟩; rw [HE.out])
    go_ret
    exact ⟨rfl, rfl⟩

theorem Bts.newRow (w : World) (t : TypeId) (l : List UInt8) (p : Nat × Nat) (cs : Array Value) (h : cs = (bv l).toArray) : Bts (w.alloc (.cells cs t p)) (some ⟨w.heap.size, 0, none⟩) l := by
  subst h
  refine Bts.mk_ (by simp) fun i hi => ?_
  rw [Nat.zero_add]
  have e : (w.alloc (.cells (bv l).toArray t p)).heap[w.heap.size]? = some (.cells (bv l).toArray t p) := heap_alloc_new w _
  rw [cell_of_row _ _ i _ t p e]
  simp [bv, hi]
theorem below_new (w : World) (o : Obj) : Below w.heap.size w (w.alloc o) := (Below.refl _ _).alloc (Nat.le_refl _) _

theorem slashSlash_any (w : World) :
    Calls Try.prog 33 #[] w fun e w' => e = .returned (.slice (some ⟨w.heap.size, 0, none⟩) 2 2) ∧ w.alloc (.cells #[.int .u8 47, .int .u8 47] 5 (2, 3)) = w' := by
  have kc := fun (w : World) (C : Array Value) (n c : Nat) => Lib.run_convert_bytes_const (P := Try.prog) w 26 5 C n c Try.underlying26 Try.underlying5
  go_enter Try.func33, Try.ntmps33
  go_wp2
  go_ret
  exact ⟨rfl, rfl⟩

theorem slashStar_any (w : World) :
    Calls Try.prog 36 #[] w fun e w' => e = .returned (.slice (some ⟨w.heap.size, 0, none⟩) 2 2) ∧ w.alloc (.cells #[.int .u8 47, .int .u8 42] 5 (2, 3)) = w' := by
  have kc := fun (w : World) (C : Array Value) (n c : Nat) => Lib.run_convert_bytes_const (P := Try.prog) w 26 5 C n c Try.underlying26 Try.underlying5
  go_enter Try.func36, Try.ntmps36
  go_wp2
  go_ret
  exact ⟨rfl, rfl⟩

theorem starSlash_any (w : World) :
    Calls Try.prog 37 #[] w fun e w' => e = .returned (.slice (some ⟨w.heap.size, 0, none⟩) 2 2) ∧ w.alloc (.cells #[.int .u8 42, .int .u8 47] 5 (2, 3)) = w' := by
  have kc := fun (w : World) (C : Array Value) (n c : Nat) => Lib.run_convert_bytes_const (P := Try.prog) w 26 5 C n c Try.underlying26 Try.underlying5
  go_enter Try.func37, Try.ntmps37
  go_wp2
  go_ret
  exact ⟨rfl, rfl⟩

theorem newline_any (w : World) :
    Calls Try.prog 35 #[] w fun e w' => e = .returned (.slice (some ⟨w.heap.size, 0, none⟩) 1 1) ∧ w.alloc (.cells #[.int .u8 10] 5 (1, 2)) = w' := by
  have kc := fun (w : World) (C : Array Value) (n c : Nat) => Lib.run_convert_bytes_const (P := Try.prog) w 26 5 C n c Try.underlying26 Try.underlying5
  go_enter Try.func35, Try.ntmps35
  go_wp2
  go_ret
  exact ⟨rfl, rfl⟩


/-- Where a slice that was cut at k begins. -/
def cutA (A : Option Addr) (k c : Nat) : Option Addr := if c = k then A else A.map (·.add k)
theorem Bts.cutL {w : World} {A : Option Addr} {l : List UInt8} (h : Bts w A l) {k c : Nat} (hk : k ≤ l.length) (hc : l.length ≤ c) : Bts w (cutA A k c) (l.drop k) := h.cut hk hc
theorem run_cut_lh (A : Option Addr) (n c k j : Nat) (hkj : k ≤ j) (hj : j ≤ c) (w : World) :
    (Instr.slice 26 (.slice A n c) (some (.int .i64 (k : Int))) (some (.int .i64 (j : Int))) none).run Try.prog w = .ok (.slice (cutA A k c) (j - k) (c - k)) w := by
  have ht : Try.prog.underlying 26 = some (.slice (Try.prog.elem 26)) := by simp [Program.elem, Try.underlying26]
  have he : Try.prog.elem 26 = 5 := by simp [Program.elem, Try.underlying26]
  have hz : (Go.sizeOf 5).run Try.prog w = .ok 1 w := by kernel_rfl
  rw [run_slice_lh w _ A n c ht .i64 .i64 _ _ (by omega) (by omega) (by omega), he, hz]
  simp [Result.andThen, sliced, cutA]
theorem run_cut_l (A : Option Addr) (n c k : Nat) (hkn : k ≤ n) (hj : n ≤ c) (w : World) :
    (Instr.slice 26 (.slice A n c) (some (.int .i64 (k : Int))) none none).run Try.prog w = .ok (.slice (cutA A k c) (n - k) (c - k)) w := by
  have ht : Try.prog.underlying 26 = some (.slice (Try.prog.elem 26)) := by simp [Program.elem, Try.underlying26]
  have he : Try.prog.elem 26 = 5 := by simp [Program.elem, Try.underlying26]
  have hz : (Go.sizeOf 5).run Try.prog w = .ok 1 w := by kernel_rfl
  rw [run_slice_l w _ A n c ht .i64 _ (by omega) (by omega), he, hz]
  simp [Result.andThen, sliced, cutA]

def BA (l : List UInt8) : ByteArray := ⟨l.toArray⟩
theorem BA_data (l : List UInt8) : (BA l).data.toList = l := by unfold BA; simp
theorem BA_size (l : List UInt8) : (BA l).size = l.length := by rw [size_list, BA_data]
def bfi (l sub : List UInt8) : Int := fidx (BA l) (BA sub)

theorem bytesIndex_any (A B : Option Addr) (n m c d : Nat) (xs ys : List UInt8) (hn : xs.length = n) (hm : ys.length = m) (w : World) (hx : Bts w A xs) (hy : Bts w B ys) (hc : n ≤ c) (hnm : n ≤ 4611686018427387904) (hcm : c ≤ 9223372036854775807) (hmm : m ≤ 2147483647) :
    Calls Try.prog 34 #[.slice A n c, .slice B m d] w fun e w' => e = .returned (.int .i64 (bfi xs ys)) ∧ Drawn w w' := by
  have HN := Lib.hid hn; clear hn
  have HM := Lib.hid hm; clear hm
  have h2 : ∀ q, (convert 26 9 (.slice B m d)).run Try.prog (w.drewN q) = .ok (.string (BA ys)) (w.drewN q) := fun q => by
    have := (hy.drewN q).conv (P := Try.prog) (src := 26) (dst := 9) Try.underlying26 Try.underlying5 Try.underlying9 d
    rw [HM.out] at this
    exact this
  clear hy
  go_enter Try.func34, Try.ntmps34
  go_wp2
  go_loopw [5] (fun i wr => ∃ k : Nat, k ≤ n + 1 ∧ i = .int .i64 k ∧ Drawn w wr ∧ FiAt (BA xs) (BA ys) k) (fun i _ => n + 1 - (intOf i).toNat)
  case atStart => exact ⟨0, by omega, rfl, Drawn.refl _, FiAt.zero _ _⟩
  case round =>
    obtain ⟨k, hk, rfl, hdr, hall⟩ := hrel
    obtain ⟨nd, rfl⟩ := hdr
    by_cases hlt : k + m ≤ n
    · have hn := HN.out
      have hm := HM.out
      have hcutB : Bts w (cutA A k c) ((xs.drop k).take m) := (hx.cutL (k := k) (c := c) (by omega) (by omega)).takeN m
      have hlen : Hid (((xs.drop k).take m).length = m) := Lib.hid <| by rw [List.length_take, List.length_drop]; omega
      have HX : Hid (((BA ((xs.drop k).take m)).toList == (BA ys).toList) = decide ((BA ys).data.toList <+: (BA xs).data.toList.drop k)) := Lib.hid <| by
        rw [Lib.toList_data, Lib.toList_data, BA_data, BA_data, BA_data, ← hm]
        exact pre_take _ _
      clear hn hm
      have h1 : ∀ q, (convert 26 9 (.slice (if c = k then A else A.map (·.add k)) m (c - k))).run Try.prog (w.drewN q) = .ok (.string (BA ((xs.drop k).take m))) (w.drewN q) := fun q => by
        have := (hcutB.drewN q).conv (P := Try.prog) (src := 26) (dst := 9) Try.underlying26 Try.underlying5 Try.underlying9 (c - k)
        rw [hlen.out] at this
        exact this
      have hw : IntKind.i64.wrap ((k : Int) + (m : Int)) = (k : Int) + (m : Int) := IntWalk.i64_in _ (by omega)
      have hs2 : ((k : Int) + (m : Int)).toNat = k + m := by omega
      have hs0 : (0 : Int) ≤ (k : Int) + (m : Int) := by omega
      have hs1 : (k : Int) + (m : Int) ≤ (c : Int) := by omega
      generalize hz : BA ((xs.drop k).take m) = z at *
      generalize hy : BA ys = y at *
      have hy' := Lib.hid hy
      clear hz hy hcutB
      cases hp : decide (y.data.toList <+: (BA xs).data.toList.drop k)
      · have hzy : (z.toList == y.toList) = false := by rw [HX.out, hp]
        have HQ := Lib.hid (fun h => FiAt.next hall h hp)
        clear hp
        go_wp2
        go_quiet (fail)
        clear hw hs2 hs0 hs1
        go_wp2
        go_roundw
        case rel => exact ⟨k + 1, by omega, by go_num, ⟨_, rfl⟩, HQ.out (by rw [← hy'.out, BA_size, BA_size]; have := HN.out; have := HM.out; omega)⟩
        case measure => simp [intOf]; omega
      · have hzy : (z.toList == y.toList) = true := by rw [HX.out, hp]
        have HQ := Lib.hid (hall.yes hp)
        clear hp
        go_wp2
        go_quiet (fail)
        clear hw hs2 hs0 hs1
        go_wp2
        all_goals go_ret
        all_goals exact ⟨ret_int (by rw [← HQ.out, ← hy'.out]; rfl), (by first | exact ⟨_, rfl⟩ | exact Drawn.more ⟨_, rfl⟩ _)⟩
    · have HF := Lib.hid (hall.no (by rw [BA_size, BA_size]; have := HN.out; have := HM.out; omega))
      go_wp2
      go_ret
      exact ⟨ret_int HF.out.symm, ⟨_, rfl⟩⟩

end Go.Proofs.Ytdapcnhgbmicoaa
