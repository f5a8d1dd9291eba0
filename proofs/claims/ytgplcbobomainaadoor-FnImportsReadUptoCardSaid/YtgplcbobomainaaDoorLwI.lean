/-
  FileOf: the file that the law FnImportsRead writes.
-/
import Derived.Test.YtgplcbobomainaaDoorLwG
import Derived.Deep.RegionHeld3
namespace Go.Proofs.YtgplcbobomainaaDoor
open Go.RowKit
set_option linter.unusedVariables false
set_option linter.unusedSimpArgs false

def pickS (zs : List Int) (i fr : Nat) (mn : Int) : ByteArray := gapsL.getD (fr + (md (zs.getD i 0) mn).toNat) ByteArray.empty
set_option maxHeartbeats 1000000 in
theorem pick_any {A G : Option Addr} {zs : List Int} {cap gb gg : Nat} {w : World} (ii f mn : Int) (i fr : Nat) (e1 : ii = (i : Nat)) (e2 : f = (fr : Nat)) (hi : i ≤ 1000) (hm : 0 < mn) (hfm : (fr : Int) + mn ≤ 7)
    (c1 : w.cell? ⟨gb, 0, none⟩ = some (.slice A zs.length cap)) (c2 : w.cell? ⟨gg, 0, none⟩ = some (.slice G 7 7)) (hz : Ints .i64 w A zs) (hg : Strs w G gapsL) (hlz : zs.length ≤ maxLen) :
    Calls Tryd.prog 31 #[.int .i64 ii, .int .i64 f, .int .i64 mn, .pointer (some ⟨gb, 0, none⟩), .pointer (some ⟨gg, 0, none⟩)] w fun e w' => e = .returned (.string (pickS zs i fr mn)) ∧ w = w' := by
  subst e1 e2
  unfold maxLen at hlz
  have hb := md_bd (zs.getD i 0) hm
  obtain ⟨m, hmm⟩ : ∃ m : Nat, md (zs.getD i 0) mn = (m : Int) := ⟨(md (zs.getD i 0) mn).toNat, by omega⟩
  have hm7 : fr + m < gapsL.length := by show fr + m < 7; omega
  have HP : Hid (pickS zs i fr mn = gapsL[fr + m]) := Lib.hid (by
    unfold pickS
    rw [hmm, Int.toNat_natCast, List.getD_eq_getElem?_getD, List.getElem?_eq_getElem hm7]; rfl)
  obtain ⟨bg, og, rfl, hbg, hcg⟩ := hg.2 (by decide)
  have hcell := hcg (fr + m) hm7
  have j1 : (0 : Int) ≤ (fr : Int) + (m : Int) := by omega
  have j2 : (fr : Int) + (m : Int) < 7 := by omega
  have j3 : ((fr : Int) + (m : Int)).toNat = fr + m := by omega
  have j4 : IntKind.i64.wrap ((fr : Int) + (m : Int)) = (fr : Int) + (m : Int) := IntWalk.i64_in _ (by omega)
  clear hcg
  generalize gapsL[fr + m] = x at *
  by_cases hlt : i < zs.length
  · obtain ⟨b, off, rfl, hb2, hc⟩ := hz.2 (by omega)
    have hck := hc i hlt
    have hgd : zs.getD i 0 = zs[i] := by simp [List.getD_eq_getElem?_getD, hlt]
    rw [hgd] at hmm hb
    have hwf : -9223372036854775808 ≤ zs[i] ∧ zs[i] ≤ 9223372036854775807 := by simpa [Lit.wf, IntKind.min, IntKind.max, IntKind.signed, IntKind.bits] using hz.1 zs[i] (List.getElem_mem hlt)
    obtain ⟨hw1, hw2⟩ := hwf
    have HE := md_eq zs[i] hm
    rw [hmm] at HE
    have hb1 : -mn < zs[i].tmod mn := Int.lt_tmod_of_pos _ hm
    have hb3 : zs[i].tmod mn < mn := Int.tmod_lt_of_pos _ hm
    have i0 : (0 : Int) ≤ (i : Int) := by omega
    have i1 : (i : Int) < (zs.length : Int) := by omega
    clear hc hz hgd hmm hb
    generalize zs[i] = z at *
    have hd : decide ((i : Int) < (zs.length : Int)) = true := by rw [decide_eq_true_eq]; exact i1
    go_enter Tryd.func31, Tryd.ntmps31
    go_wp2_with fail
    go_ret
    exact ⟨by rw [HP.out]; rfl, rfl⟩
  · have hgd : zs.getD i 0 = 0 := by simp [List.getD_eq_getElem?_getD, hlt]
    rw [hgd] at hmm
    obtain rfl : m = 0 := by
      have : md 0 mn = 0 := by unfold md; simp
      rw [this] at hmm; omega
    have hd : decide ((i : Int) < (zs.length : Int)) = false := by rw [decide_eq_false_iff_not]; omega
    rw [Nat.add_zero] at hcell
    have j5 : (0 : Int) ≤ (fr : Int) := by omega
    have j6 : (fr : Int) < 7 := by omega
    have j7 : IntKind.i64.wrap (fr : Int) = (fr : Int) := IntWalk.i64_in _ (by omega)
    clear j1 j2 j3 j4 hmm hb
    go_enter Tryd.func31, Tryd.ntmps31
    go_wp2_with fail
    go_ret
    exact ⟨by rw [HP.out]; rfl, rfl⟩

/-! ### The plain file -/
def imOf (zs : List Int) (ns ls : List ByteArray) (k : Nat) : Im := { nm := (ns.getD k ByteArray.empty).data.toList, lit := (ls.getD k ByteArray.empty).data.toList, g1 := (pickS zs (2 * k + 3) 0 3).data.toList, g2 := (pickS zs (2 * k + 4) 3 4).data.toList }
def imsOf (zs : List Int) (ns ls : List ByteArray) (k : Nat) : List Im := (List.range k).map (imOf zs ns ls)
theorem imsOf_succ (zs : List Int) (ns ls : List ByteArray) (k : Nat) : imsOf zs ns ls (k + 1) = imsOf zs ns ls k ++ [imOf zs ns ls k] := by
  unfold imsOf
  rw [List.range_succ, List.map_append]; rfl
theorem unT_snoc (L : List Im) (x : Im) : unT (L ++ [x]) = unT L ++ (importK ++ x.g1 ++ clauseL x.nm x.lit ++ x.g2) := by
  induction L with
  | nil => simp [unT]
  | cons y t ih => rw [List.cons_append, unT, ih, unT, List.append_assoc (importK ++ y.g1 ++ clauseL y.nm y.lit ++ y.g2)]
theorem grT_snoc (L : List Im) (x : Im) : grT (L ++ [x]) = grT L ++ (clauseL x.nm x.lit ++ x.g2) := by
  induction L with
  | nil => simp [grT]
  | cons y t ih => rw [List.cons_append, grT, ih, grT, List.append_assoc (clauseL y.nm y.lit ++ y.g2)]
/-- The text of the imports written so far. -/
def accT (gr : Bool) (L : List Im) : ByteArray := BA (if gr = true then grT L else unT L)
theorem accT_gr (zs : List Int) (ns ls : List ByteArray) (k : Nat) : accT true (imsOf zs ns ls (k + 1)) = accT true (imsOf zs ns ls k) ++ (clauseS (ns.getD k ByteArray.empty) (ls.getD k ByteArray.empty) ++ pickS zs (2 * k + 4) 3 4) := by
  apply WideShapes.bytes_inj
  unfold accT
  rw [imsOf_succ, if_pos rfl, if_pos rfl, grT_snoc]
  simp [ByteArray.data_append, BA, clauseS_list, imOf]
theorem accT_un (zs : List Int) (ns ls : List ByteArray) (k : Nat) : accT false (imsOf zs ns ls (k + 1)) = accT false (imsOf zs ns ls k) ++ (⟨#[105, 109, 112, 111, 114, 116]⟩ ++ pickS zs (2 * k + 3) 0 3 ++ (clauseS (ns.getD k ByteArray.empty) (ls.getD k ByteArray.empty) ++ pickS zs (2 * k + 4) 3 4)) := by
  apply WideShapes.bytes_inj
  unfold accT
  rw [imsOf_succ, if_neg (by decide), if_neg (by decide), unT_snoc]
  simp [ByteArray.data_append, BA, clauseS_list, imOf, importK]
theorem accT_nil (gr : Bool) (zs : List Int) (ns ls : List ByteArray) : accT gr (imsOf zs ns ls 0) = ⟨#[]⟩ := by cases gr <;> rfl
theorem pickS_size (zs : List Int) (i fr : Nat) (mn : Int) : (pickS zs i fr mn).size ≤ 14 := by
  unfold pickS
  rw [List.getD_eq_getElem?_getD]
  cases h : gapsL[fr + (md (zs.getD i 0) mn).toNat]? with
  | none => decide
  | some x =>
    have hm : ∀ s ∈ gapsL, s.size ≤ 14 := by decide
    exact hm _ (List.mem_of_getElem? h)
theorem clauseS_size {n l : ByteArray} (hn : n.size ≤ 1048576) (hl : l.size ≤ 1048576) : (clauseS n l).size ≤ 2097153 := by
  unfold clauseS
  have h1 : (⟨#[32]⟩ : ByteArray).size = 1 := by decide
  split
  · omega
  · rw [ByteArray.size_append, ByteArray.size_append, h1]; omega
theorem getD_size {L : List ByteArray} (h : ∀ s ∈ L, s.size ≤ 1048576) (k : Nat) : (L.getD k ByteArray.empty).size ≤ 1048576 := by
  rw [List.getD_eq_getElem?_getD]
  cases e : L[k]? with
  | none => decide
  | some x => exact h _ (List.mem_of_getElem? e)
theorem accT_size (gr : Bool) (zs : List Int) {ns ls : List ByteArray} (hn : ∀ s ∈ ns, s.size ≤ 1048576) (hl : ∀ s ∈ ls, s.size ≤ 1048576) (k : Nat) : (accT gr (imsOf zs ns ls k)).size ≤ 3000000 * k := by
  induction k with
  | zero => rw [accT_nil]; decide
  | succ k ih =>
    have c := clauseS_size (getD_size hn k) (getD_size hl k)
    have p1 := pickS_size zs (2 * k + 4) 3 4
    have p2 := pickS_size zs (2 * k + 3) 0 3
    have hi : (⟨#[105, 109, 112, 111, 114, 116]⟩ : ByteArray).size = 6 := by decide
    cases gr
    · rw [accT_un]
      simp only [ByteArray.size_append, hi]
      omega
    · rw [accT_gr]
      simp only [ByteArray.size_append]
      omega
/-- The file up to its imports. -/
def baseS (a : ByteArray) (zs : List Int) : ByteArray := a ++ ⟨#[112, 97, 99, 107, 97, 103, 101]⟩ ++ pickS zs 0 0 3 ++ ⟨#[112]⟩ ++ pickS zs 1 3 4
def openS (zs : List Int) : ByteArray := ⟨#[105, 109, 112, 111, 114, 116]⟩ ++ pickS zs 2 0 3 ++ ⟨#[40]⟩
def shutS (zs : List Int) : ByteArray := ⟨#[41]⟩ ++ pickS zs 3 3 4
/-- What stands ahead of the rest. -/
def fileS (a : ByteArray) (ns ls : List ByteArray) (gr : Bool) (zs : List Int) : ByteArray :=
  if gr = true ∧ 0 < ns.length then baseS a zs ++ openS zs ++ accT true (imsOf zs ns ls ns.length) ++ shutS zs else baseS a zs ++ accT false (imsOf zs ns ls ns.length)
theorem fileS_head (a : ByteArray) (ns ls : List ByteArray) (gr : Bool) (zs : List Int) : (fileS a ns ls gr zs).data.toList = headT a.data.toList (pickS zs 0 0 3).data.toList (pickS zs 1 3 4).data.toList (impsT gr (pickS zs 2 0 3).data.toList (pickS zs 3 3 4).data.toList (imsOf zs ns ls ns.length)) := by
  have hne : (imsOf zs ns ls ns.length ≠ []) ↔ 0 < ns.length := by
    unfold imsOf
    cases ns with
    | nil => simp
    | cons x t => simp
  unfold fileS headT impsT
  by_cases h : gr = true ∧ 0 < ns.length
  · rw [if_pos h, if_pos ⟨h.1, hne.2 h.2⟩]
    unfold baseS openS shutS accT
    simp [ByteArray.data_append, BA, packageK, importK]
  · rw [if_neg h, if_neg (fun e => h ⟨e.1, hne.1 e.2⟩)]
    unfold baseS accT
    simp [ByteArray.data_append, BA, packageK]
theorem baseS_size {a : ByteArray} (zs : List Int) (h : a.size ≤ 8000000) : (baseS a zs).size ≤ 8000100 := by
  have p1 := pickS_size zs 0 0 3
  have p2 := pickS_size zs 1 3 4
  have h7 : (⟨#[112, 97, 99, 107, 97, 103, 101]⟩ : ByteArray).size = 7 := by decide
  have h1 : (⟨#[112]⟩ : ByteArray).size = 1 := by decide
  unfold baseS
  simp only [ByteArray.size_append, h7, h1]
  omega
theorem openS_size (zs : List Int) : (openS zs).size ≤ 30 := by
  have p1 := pickS_size zs 2 0 3
  have h7 : (⟨#[105, 109, 112, 111, 114, 116]⟩ : ByteArray).size = 6 := by decide
  have h1 : (⟨#[40]⟩ : ByteArray).size = 1 := by decide
  unfold openS
  simp only [ByteArray.size_append, h7, h1]
  omega
theorem shutS_size (zs : List Int) : (shutS zs).size ≤ 30 := by
  have p1 := pickS_size zs 3 3 4
  have h1 : (⟨#[41]⟩ : ByteArray).size = 1 := by decide
  unfold shutS
  simp only [ByteArray.size_append, h1]
  omega
theorem fileS_size {a : ByteArray} {ns ls : List ByteArray} (gr : Bool) (zs : List Int) (h : a.size ≤ 8000000) (h20 : ns.length ≤ 20) (hn : ∀ s ∈ ns, s.size ≤ 1048576) (hl : ∀ s ∈ ls, s.size ≤ 1048576) : (fileS a ns ls gr zs).size ≤ 100000000 := by
  have b := baseS_size zs h
  have o := openS_size zs
  have c := shutS_size zs
  have t1 := accT_size true zs hn hl ns.length
  have t2 := accT_size false zs hn hl ns.length
  unfold fileS
  split
  · simp only [ByteArray.size_append]; omega
  · simp only [ByteArray.size_append]; omega

def FilePost (w : World) (F : ByteArray) (s : ByteArray) (e : Ending) (w' : World) : Prop := e = .returned (.tuple #[.string (F ++ s), .int .i64 (F.size : Nat)]) ∧ Below w.heap.size w w'
theorem file_end {w w2 : World} {FS X s : ByteArray} {n : Int} (h : FS = X) (hn : n = ((X.size : Nat) : Int)) (hb : Below w.heap.size w w2) : FilePost w FS s (.returned (.tuple #[.string (X ++ s), .int .i64 n])) w2 := by
  subst h; subst hn
  exact ⟨rfl, hb⟩
structure FW (w w2 : World) (A B C G : Option Addr) (ns ls : List ByteArray) (zs : List Int) (cap3 gg : Nat) : Prop where
  c1 : w2.cell? ⟨w.heap.size, 0, none⟩ = some (.slice C zs.length cap3)
  c2 : w2.cell? ⟨gg, 0, none⟩ = some (.slice G 7 7)
  hz : Ints .i64 w2 C zs
  hg : Strs w2 G gapsL
  hn : Strs w2 A ns
  hl : Strs w2 B ls
  below : Below w.heap.size w w2
theorem file_world {w w1 : World} {A B C G : Option Addr} {ns ls : List ByteArray} {zs : List Int} {cap3 : Nat} {t1 t2 : TypeId} (b1 : Below (w.alloc (.cells #[.slice C zs.length cap3] t1)).heap.size (w.alloc (.cells #[.slice C zs.length cap3] t1)) w1) (hg : Strs w1 G gapsL) (hn : Strs w A ns) (hl : Strs w B ls) (hz : Ints .i64 w C zs) :
    FW w (w1.alloc (.cells #[.slice G 7 7] t2)) A B C G ns ls zs cap3 w1.heap.size := by
  have ba : Below w.heap.size w (w.alloc (.cells #[.slice C zs.length cap3] t1)) := (Below.refl _ _).alloc (Nat.le_refl _) _
  have b2 : Below w1.heap.size w1 (w1.alloc (.cells #[.slice G 7 7] t2)) := (Below.refl _ _).alloc (Nat.le_refl _) _
  have bb := (ba.trans (b1.mono (by simp))).trans (b2.mono (Nat.le_trans ba.size b1.size))
  have e1 := heap_alloc_new w (.cells #[.slice C zs.length cap3] t1)
  have l1 : w.heap.size < (w.alloc (.cells #[.slice C zs.length cap3] t1)).heap.size := by simp
  have l2 : w.heap.size < w1.heap.size := Nat.lt_of_lt_of_le l1 b1.size
  refine ⟨?_, ?_, hz.below bb, hg.below b2, hn.below bb, hl.below bb, bb⟩
  · have := (b2.block _ l2).trans ((b1.block _ l1).trans e1)
    rw [cell_of_row _ _ 0 _ t1 (0, 0) this]; rfl
  · have := heap_alloc_new w1 (.cells #[.slice G 7 7] t2)
    rw [cell_of_row _ _ 0 _ t2 (0, 0) this]; rfl
set_option maxRecDepth 100000 in
set_option maxHeartbeats 4000000 in
theorem fileOf_any {A B C : Option Addr} {cap cap2 cap3 : Nat} (a : ByteArray) (ns ls : List ByteArray) (gr : Bool) (zs : List Int) (s : ByteArray) (w : World) (hn : Strs w A ns) (hl : Strs w B ls) (hz : Ints .i64 w C zs) (hlen : ns.length = ls.length) (h20 : ns.length ≤ 20) (hlz : zs.length ≤ maxLen)
    (ha : a.size ≤ 8000000) (hns : ∀ s ∈ ns, s.size ≤ 1048576) (hls : ∀ s ∈ ls, s.size ≤ 1048576) (hs : s.size ≤ 1048576) :
    Calls Tryd.prog 19 #[.string a, .slice A ns.length cap, .slice B ls.length cap2, .bool gr, .slice C zs.length cap3, .string s] w (FilePost w (fileS a ns ls gr zs) s) := by
  have HLN := Lib.hid hlen
  have hll : ls.length ≤ 20 := by omega
  have HNS := Lib.hid hns
  have HLS := Lib.hid hls
  clear hlen
  have hb := baseS_size zs ha
  have ho := openS_size zs
  have hsh := shutS_size zs
  have q0 := pickS_size zs 0 0 3
  have q1 := pickS_size zs 1 3 4
  have q2 := pickS_size zs 2 0 3
  have q3 := pickS_size zs 3 3 4
  go_enter Tryd.func19, Tryd.ntmps19
  go_wp2_with fail
  refine (gaps_any _).mono ?_
  rintro e w1 ⟨G, rfl, hg, b1⟩
  have F := fun t2 => file_world (t2 := t2) b1 hg hn hl hz
  clear hg b1 hn hl hz
  go_wp2_with fail
  replace F := F 23
  generalize w1.alloc (.cells #[.slice G 7 7] 23) = w2 at *
  generalize w1.heap.size = gg at *
  refine (pick_any 0 0 3 0 0 rfl rfl (by omega) (by decide) (by decide) F.c1 F.c2 F.hz F.hg hlz).mono ?_; rintro e w' ⟨rfl, rfl⟩
  go_wp2_with fail
  refine (pick_any 1 3 4 1 3 rfl rfl (by omega) (by decide) (by decide) F.c1 F.c2 F.hz F.hg hlz).mono ?_; rintro e w' ⟨rfl, rfl⟩
  have HB : a ++ ⟨#[112, 97, 99, 107, 97, 103, 101]⟩ ++ pickS zs 0 0 3 ++ ⟨#[112]⟩ ++ pickS zs 1 3 4 = baseS a zs := rfl
  have HBH := Lib.hid HB
  clear HB
  go_upto_region 4 with fail
  rw [HBH.out]
  have HFS : Hid (fileS a ns ls gr zs = if gr = true ∧ 0 < ns.length then baseS a zs ++ openS zs ++ accT true (imsOf zs ns ls ns.length) ++ shutS zs else baseS a zs ++ accT false (imsOf zs ns ls ns.length)) := Lib.hid rfl
  generalize fileS a ns ls gr zs = FS at *
  generalize baseS a zs = base at *
  clear HBH
  by_cases hgr : gr = true ∧ 0 < ns.length
  · have HF2 : Hid (FS = base ++ openS zs ++ accT true (imsOf zs ns ls ns.length) ++ shutS zs) := Lib.hid (by rw [HFS.out, if_pos hgr])
    obtain ⟨rfl, hpos⟩ := hgr
    have hd : decide ((0 : Int) < (ns.length : Int)) = true := by rw [decide_eq_true_eq]; omega
    go_wp2_with fail
    refine (pick_any 2 0 3 2 0 rfl rfl (by omega) (by decide) (by decide) F.c1 F.c2 F.hz F.hg hlz).mono ?_; rintro e w' ⟨rfl, rfl⟩
    go_upto_region 6 with fail
    have HO : base ++ (⟨#[105, 109, 112, 111, 114, 116]⟩ ++ pickS zs 2 0 3 ++ ⟨#[40]⟩) = base ++ openS zs := rfl
    rw [HO]
    clear HO
    have hout : (base ++ openS zs).size ≤ 8000200 := by rw [ByteArray.size_append]; omega
    generalize base ++ openS zs = out0 at *
    go_wp2_with fail
    go_loop [16, 45] (fun o i => ∃ k : Nat, k ≤ ns.length ∧ i = .int .i64 k ∧ o = .string (out0 ++ accT true (imsOf zs ns ls k))) (fun _ i => ns.length - (intOf i).toNat)
    case atStart => exact ⟨0, Nat.zero_le _, rfl, by rw [accT_nil]; exact str_nil _⟩
    case round =>
      obtain ⟨k, hk, rfl, rfl⟩ := hrel
      by_cases hlt : k < ns.length
      · have hlt2 : k < ls.length := by have := HLN.out; omega
        obtain ⟨b, off, rfl, hb1, hc⟩ := F.hn.2 (by omega)
        obtain ⟨b', off', rfl, hb1', hc'⟩ := F.hl.2 (by omega)
        have hck := hc k hlt
        have hck' := hc' k hlt2
        have i0 : (0 : Int) ≤ (k : Int) := by omega
        have i1 : (k : Int) < (ns.length : Int) := by omega
        have i2 : (k : Int) < (ls.length : Int) := by omega
        have g1 : ns.getD k ByteArray.empty = ns[k] := by simp [List.getD_eq_getElem?_getD, hlt]
        have g2 : ls.getD k ByteArray.empty = ls[k] := by simp [List.getD_eq_getElem?_getD, hlt2]
        have HS := Lib.hid (accT_gr zs ns ls k)
        rw [g1, g2] at HS
        have z1 := hns ns[k] (List.getElem_mem hlt)
        have z2 := hls ls[k] (List.getElem_mem hlt2)
        have zc := clauseS_size z1 z2
        have zp := pickS_size zs (2 * k + 4) 3 4
        have za := accT_size true zs hns hls k
        have k20 : k ≤ 20 := by omega
        clear hc hc' g1 g2
        generalize ns[k] = x at *
        generalize ls[k] = y at *
        generalize accT true (imsOf zs ns ls k) = acc at *
        have r0 : acc.size ≤ 60000000 := by omega
        go_wp2_with fail
        refine (clause_any x y z1 z2 _).mono ?_; rintro e w' ⟨rfl, rfl⟩
        go_wp2_with fail
        refine (pick_any (2 * (k : Int) + 4) 3 4 (2 * k + 4) 3 (by omega) rfl (by omega) (by decide) (by decide) F.c1 F.c2 F.hz F.hg hlz).mono ?_; rintro e w' ⟨rfl, rfl⟩
        go_wp2_with fail
        go_round
        case rel => exact ⟨k + 1, by omega, by go_num, by rw [HS.out, ByteArray.append_assoc]⟩
        case measure => simp [intOf]; omega
      · obtain rfl : k = ns.length := by omega
        have za := accT_size true zs hns hls ns.length
        generalize accT true (imsOf zs ns ls ns.length) = acc at *
        have r0 : acc.size ≤ 60000000 := by omega
        go_wp2_with fail
        refine (pick_any 3 3 4 3 3 rfl rfl (by omega) (by decide) (by decide) F.c1 F.c2 F.hz F.hg hlz).mono ?_; rintro e w' ⟨rfl, rfl⟩
        go_wp2_with fail
        have HF3 : Hid (FS = out0 ++ acc ++ (⟨#[41]⟩ ++ pickS zs 3 3 4)) := Lib.hid HF2.out
        go_ret2
        exact file_end HF3.out (by have h1 : (⟨#[41]⟩ : ByteArray).size = 1 := by decide
                                   simp only [ByteArray.size_append, h1]; omega) F.below
  · have HF2 : Hid (FS = base ++ accT false (imsOf zs ns ls ns.length)) := Lib.hid (by rw [HFS.out, if_neg hgr])
    clear HFS
    cases gr
    · clear hgr
      go_wp2_with fail
      go_loop [16, 45] (fun o i => ∃ k : Nat, k ≤ ns.length ∧ i = .int .i64 k ∧ o = .string (base ++ accT false (imsOf zs ns ls k))) (fun _ i => ns.length - (intOf i).toNat)
      case atStart => exact ⟨0, Nat.zero_le _, rfl, by rw [accT_nil]; exact str_nil _⟩
      case round =>
        obtain ⟨k, hk, rfl, rfl⟩ := hrel
        by_cases hlt : k < ns.length
        · have hlt2 : k < ls.length := by have := HLN.out; omega
          obtain ⟨b, off, rfl, hb1, hc⟩ := F.hn.2 (by omega)
          obtain ⟨b', off', rfl, hb1', hc'⟩ := F.hl.2 (by omega)
          have hck := hc k hlt
          have hck' := hc' k hlt2
          have i0 : (0 : Int) ≤ (k : Int) := by omega
          have i1 : (k : Int) < (ns.length : Int) := by omega
          have i2 : (k : Int) < (ls.length : Int) := by omega
          have g1 : ns.getD k ByteArray.empty = ns[k] := by simp [List.getD_eq_getElem?_getD, hlt]
          have g2 : ls.getD k ByteArray.empty = ls[k] := by simp [List.getD_eq_getElem?_getD, hlt2]
          have HS := Lib.hid (accT_un zs ns ls k)
          rw [g1, g2] at HS
          have z1 := hns ns[k] (List.getElem_mem hlt)
          have z2 := hls ls[k] (List.getElem_mem hlt2)
          have zc := clauseS_size z1 z2
          have zp := pickS_size zs (2 * k + 4) 3 4
          have zq := pickS_size zs (2 * k + 3) 0 3
          have za := accT_size false zs hns hls k
          have k20 : k ≤ 20 := by omega
          clear hc hc' g1 g2
          generalize ns[k] = x at *
          generalize ls[k] = y at *
          generalize accT false (imsOf zs ns ls k) = acc at *
          have r0 : acc.size ≤ 60000000 := by omega
          go_wp2_with fail
          refine (clause_any x y z1 z2 _).mono ?_; rintro e w' ⟨rfl, rfl⟩
          go_wp2_with fail
          refine (pick_any (2 * (k : Int) + 4) 3 4 (2 * k + 4) 3 (by omega) rfl (by omega) (by decide) (by decide) F.c1 F.c2 F.hz F.hg hlz).mono ?_; rintro e w' ⟨rfl, rfl⟩
          go_wp2_with fail
          refine (pick_any (2 * (k : Int) + 3) 0 3 (2 * k + 3) 0 (by omega) rfl (by omega) (by decide) (by decide) F.c1 F.c2 F.hz F.hg hlz).mono ?_; rintro e w' ⟨rfl, rfl⟩
          go_wp2_with fail
          go_round
          case rel => exact ⟨k + 1, by omega, by go_num, by rw [HS.out, ByteArray.append_assoc]⟩
          case measure => simp [intOf]; omega
        · obtain rfl : k = ns.length := by omega
          have za := accT_size false zs hns hls ns.length
          generalize accT false (imsOf zs ns ls ns.length) = acc at *
          have r0 : acc.size ≤ 60000000 := by omega
          go_wp2_with fail
          go_ret2
          exact file_end HF2.out (by simp only [ByteArray.size_append]; omega) F.below
    · have hz0 : ns.length = 0 := by
        rcases Nat.eq_zero_or_pos ns.length with h | h
        · exact h
        · exact absurd ⟨rfl, h⟩ hgr
      have hd : decide ((0 : Int) < (ns.length : Int)) = false := by rw [decide_eq_false_iff_not]; omega
      have HZ := Lib.hid hz0
      have hnp : ¬ 0 < ns.length := by omega
      have hnd : decide (0 < ns.length) = false := by rw [decide_eq_false_iff_not]; omega
      clear hgr hz0
      go_wp2_with fail
      go_loop [16, 45] (fun o i => ∃ k : Nat, k ≤ ns.length ∧ i = .int .i64 k ∧ o = .string (base ++ accT false (imsOf zs ns ls k))) (fun _ i => ns.length - (intOf i).toNat)
      case atStart => exact ⟨0, Nat.zero_le _, rfl, by rw [accT_nil]; exact str_nil _⟩
      case round =>
        obtain ⟨k, hk, rfl, rfl⟩ := hrel
        by_cases hlt : k < ns.length
        · have := HZ.out; omega
        · obtain rfl : k = ns.length := by omega
          have za := accT_size false zs hns hls ns.length
          generalize accT false (imsOf zs ns ls ns.length) = acc at *
          have r0 : acc.size ≤ 60000000 := by omega
          go_wp2_with fail
          go_ret2
          exact file_end HF2.out (by simp only [ByteArray.size_append]; omega) F.below

def AscL (l : List UInt8) : Prop := ∀ b ∈ l, b.toNat ≤ 127
theorem AscL.app {a b : List UInt8} (h : AscL a) (k : AscL b) : AscL (a ++ b) := fun x hx => by
  rcases List.mem_append.1 hx with hx | hx
  · exact h x hx
  · exact k x hx
def gapKB : List UInt8 → Bool
  | [] => false
  | y :: t => gapB .sp (y :: t) && (!(isId y) && !(y == 0))
theorem gapKB_ok {l : List UInt8} (h : gapKB l = true) : GapK l := by
  cases l with
  | nil => cases h
  | cons y t =>
    unfold gapKB at h
    simp only [Bool.and_eq_true, Bool.not_eq_true', beq_eq_false_iff_ne] at h
    exact ⟨h.1, y, t, rfl, h.2.1, h.2.2⟩
theorem gaps_all : ∀ x ∈ gapsL, gapKB x.data.toList = true ∧ (x.data.toList.all fun b => decide (b.toNat ≤ 127)) = true := by decide
theorem pickS_ok (zs : List Int) (i fr : Nat) {mn : Int} (hm : 0 < mn) (hfm : (fr : Int) + mn ≤ 7) : GapK (pickS zs i fr mn).data.toList ∧ AscL (pickS zs i fr mn).data.toList := by
  have hb := md_bd (zs.getD i 0) hm
  have hl : fr + (md (zs.getD i 0) mn).toNat < gapsL.length := by show _ < 7; omega
  have e : pickS zs i fr mn = gapsL[fr + (md (zs.getD i 0) mn).toNat] := by
    unfold pickS
    rw [List.getD_eq_getElem?_getD, List.getElem?_eq_getElem hl]; rfl
  rw [e]
  obtain ⟨h1, h2⟩ := gaps_all _ (List.getElem_mem hl)
  exact ⟨gapKB_ok h1, fun b hb => by simpa using List.all_eq_true.1 h2 b hb⟩
theorem nm_asc {n l : ByteArray} (h : isImp n l = true) : AscL n.data.toList ∧ AscL l.data.toList := by
  have hk := isImp_ok h
  unfold isImp at h
  simp only [Bool.and_eq_true, Bool.or_eq_true] at h
  obtain ⟨h1, h2⟩ := h
  rw [Lib.toList_data] at h1
  constructor
  · rcases h1 with h1 | h1 | h1
    · have : n.data.toList = [] := by simpa using h1
      rw [this]; intro b hb; cases hb
    · have : n.data.toList = [46] := by simpa using h1
      rw [this]; unfold AscL; decide
    · obtain ⟨c, r, e, h⟩ := name_parts h1
      rw [e]; exact fun x hx => (h x hx).2
  · obtain ⟨q, body, e, hq, hb⟩ := hk.2
    rw [e]
    intro b hbm
    rcases List.mem_cons.1 hbm with rfl | hbm
    · rcases hq with rfl | rfl <;> decide
    · rcases List.mem_append.1 hbm with hbm | hbm
      · exact (litC_parts (List.all_eq_true.1 hb b hbm)).2.2.2.2
      · rw [List.mem_singleton] at hbm; subst hbm; rcases hq with rfl | rfl <;> decide
theorem clause_asc {n l : List UInt8} (h1 : AscL n) (h2 : AscL l) : AscL (clauseL n l) := by
  unfold clauseL
  split
  · exact h2
  · exact h1.app (fun b hb => by
      rcases List.mem_cons.1 hb with rfl | hb
      · decide
      · exact h2 b hb)
structure ImGood (x : Im) : Prop where
  ok : ImOk x
  a1 : AscL x.nm
  a2 : AscL x.lit
  a3 : AscL x.g1
  a4 : AscL x.g2
theorem imp_asc : AscL importK := by unfold AscL; decide
theorem unT_asc {L : List Im} (h : ∀ x ∈ L, ImGood x) : AscL (unT L) := by
  induction L with
  | nil => intro b hb; cases hb
  | cons x t ih =>
    have hx := h x (by simp)
    exact ((((imp_asc.app hx.a3).app (clause_asc hx.a1 hx.a2)).app hx.a4)).app (ih (fun y hy => h y (by simp [hy])))
theorem grT_asc {L : List Im} (h : ∀ x ∈ L, ImGood x) : AscL (grT L) := by
  induction L with
  | nil => intro b hb; cases hb
  | cons x t ih =>
    have hx := h x (by simp)
    exact ((clause_asc hx.a1 hx.a2).app hx.a4).app (ih (fun y hy => h y (by simp [hy])))
theorem areI_parts {ns ls : List ByteArray} (h : areI ns ls = true) : ns.length = ls.length ∧ ns.length ≤ 20 ∧ ∀ k, k < ns.length → isImp (ns.getD k ByteArray.empty) (ls.getD k ByteArray.empty) = true := by
  unfold areI at h
  simp only [Bool.and_eq_true, decide_eq_true_eq] at h
  obtain ⟨⟨h1, h2⟩, h3⟩ := h
  refine ⟨h1, h2, fun k hk => ?_⟩
  have hz : k < (ns.zip ls).length := by rw [List.length_zip]; omega
  have := List.all_eq_true.1 h3 _ (List.getElem_mem hz)
  simp [impP] at this
  simp [List.getD_eq_getElem?_getD, hk, (show k < ls.length by omega), this]
theorem ims_good {ns ls : List ByteArray} (zs : List Int) (h : areI ns ls = true) : ∀ x ∈ imsOf zs ns ls ns.length, ImGood x := by
  obtain ⟨h1, h2, h3⟩ := areI_parts h
  intro x hx
  unfold imsOf at hx
  obtain ⟨k, hk, rfl⟩ := List.mem_map.1 hx
  rw [List.mem_range] at hk
  have hi := h3 k hk
  have ok := isImp_ok hi
  have hasc := nm_asc hi
  have p1 := pickS_ok zs (2 * k + 3) 0 (mn := 3) (by omega) (by omega)
  have p2 := pickS_ok zs (2 * k + 4) 3 (mn := 4) (by omega) (by omega)
  exact ⟨⟨ok.1, ok.2, p1.1, p2.1.1⟩, hasc.1, hasc.2, p1.2, p2.2⟩
theorem lits_eq {ns ls : List ByteArray} (zs : List Int) (h : ns.length = ls.length) : (imsOf zs ns ls ns.length).map (·.lit) = dl ls := by
  unfold imsOf dl
  rw [List.map_map, h]
  apply List.ext_getElem
  · simp
  · intro i h1 h2
    have hi : i < ls.length := by simpa using h2
    simp [imOf, List.getD_eq_getElem?_getD, hi]
theorem bz_dl (ls : List ByteArray) : (dl ls).map GI.bz = ls := by
  unfold dl
  rw [List.map_map]
  conv => rhs; rw [← List.map_id ls]
  apply List.map_congr_left
  intro s _
  exact ba_id s
/-- The file reads back. -/
theorem file_read {ss ns ls : List ByteArray} {zs : List Int} {s : ByteArray} (gr rep : Bool) (h1 : ss.all lnB = true) (h2 : areI ns ls = true) (h3 : foll s = true) :
    readIm rep (fileS (comB ss) ns ls gr zs ++ s).data.toList = some ((fileS (comB ss) ns ls gr zs).data.toList, dl ls) := by
  have hf := foll_ok h3
  have hg := ims_good zs h2
  have p0 := pickS_ok zs 0 0 (mn := 3) (by omega) (by omega)
  have p1 := pickS_ok zs 1 3 (mn := 4) (by omega) (by omega)
  have p2 := pickS_ok zs 2 0 (mn := 3) (by omega) (by omega)
  have p3 := pickS_ok zs 3 3 (mn := 4) (by omega) (by omega)
  have e1 : (fileS (comB ss) ns ls gr zs ++ s).data.toList = (fileS (comB ss) ns ls gr zs).data.toList ++ s.data.toList := by simp [ByteArray.data_append]
  have ec : (comB ss).data.toList = comL (dl ss) := by unfold comB; rw [BA_data]
  rw [e1, fileS_head, ec, ← lits_eq zs (areI_parts h2).1]
  have hk : AscL packageK := by unfold AscL; decide
  have hp : AscL [112] := by unfold AscL; decide
  have ho : AscL [40] := by unfold AscL; decide
  have hs : AscL [41] := by unfold AscL; decide
  refine file_ok (gap_com (lines_ok h1)) p0.1 p1.1 p2.1 p3.1.1 (fun x hx => (hg x hx).ok) hf.1 ?_
  have hi : AscL (impsT gr (pickS zs 2 0 3).data.toList (pickS zs 3 3 4).data.toList (imsOf zs ns ls ns.length)) := by
    unfold impsT
    split
    · exact ((((imp_asc.app p2.2).app ho).app (grT_asc hg)).app hs).app p3.2
    · exact unT_asc hg
  have hh : AscL (headT (comL (dl ss)) (pickS zs 0 0 3).data.toList (pickS zs 1 3 4).data.toList (impsT gr (pickS zs 2 0 3).data.toList (pickS zs 3 3 4).data.toList (imsOf zs ns ls ns.length))) :=
    (((((show AscL (comL (dl ss)) from com_ascii (lines_ok h1)).app hk).app p0.2).app hp).app p1.2).app hi
  exact hh.app hf.2
theorem cut_head (F s : ByteArray) : (F ++ s).extract 0 F.size = F := by
  apply WideShapes.bytes_inj
  rw [← Lib.toList_data, Lib.extract_toList, ByteArray.data_append, Array.toList_append, Nat.sub_zero, List.drop_zero, size_list F, List.take_left]

set_option maxRecDepth 100000 in
set_option maxHeartbeats 4000000 in
theorem importsReadArgs {E : EB} (A : Option Addr) (ss : List ByteArray) (cap : Nat) (B : Option Addr) (ns : List ByteArray) (cap2 : Nat) (C : Option Addr) (ls : List ByteArray) (cap3 : Nat) (gr : Bool) (D : Option Addr) (zs : List Int) (cap4 : Nat) (s : ByteArray) (most : Int) (rep : Bool) (w : World)
    (hs : Strs w A ss) (cs : ss.length ≤ maxLen) (hn : Strs w B ns) (cn : ns.length ≤ maxLen) (hl : Strs w C ls) (cl : ls.length ≤ maxLen) (hz : Ints .i64 w D zs) (cz : zs.length ≤ maxLen) (ws : s.size ≤ maxLen) (h1 : IntKind.i64.wrap most = most)
    (bs : (ss.map fun s => s.size + 1).sum ≤ 1048576) (bn : (ns.map fun s => s.size + 1).sum ≤ 1048576) (bl : (ls.map fun s => s.size + 1).sum ≤ 1048576) (bz : zs.length ≤ 1048576) (b2 : s.size ≤ 1048576) (he : OkI E w) :
    Calls Tryd.prog 5 #[.slice A ss.length cap, .slice B ns.length cap2, .slice C ls.length cap3, .bool gr, .slice D zs.length cap4, .string s, .int .i64 most, .bool rep] w fun e w' => e = .returned (.bool true) ∧ Below w.heap.size w w' := by
  have ms := ws
  have f1 := Lib.hid (fits_of bs)
  have f2 := Lib.hid (fits_of bn)
  have f3 := Lib.hid (fits_of bl)
  have hcom := com_small bs
  have NS := Lib.hid (sum_each bn)
  have LS := Lib.hid (sum_each bl)
  have mz := cz
  unfold maxLen at ws cz cs cn cl
  clear bs bn bl
  go_enter Tryd.func5, Tryd.ntmps5
  go_wp2_with fail
  refine (fits2_any A ss cap _ hs (by unfold maxLen; omega)).mono ?_; rintro e w' ⟨rfl, rfl⟩; rw [f1.out]
  go_wp2_with fail
  refine (fits2_any B ns cap2 _ hn (by unfold maxLen; omega)).mono ?_; rintro e w' ⟨rfl, rfl⟩; rw [f2.out]
  go_wp2_with fail
  refine (fits2_any C ls cap3 _ hl (by unfold maxLen; omega)).mono ?_; rintro e w' ⟨rfl, rfl⟩; rw [f3.out]
  go_wp2_with fail
  refine (areLines_any A ss cap _ hs (by unfold maxLen; omega)).mono ?_; rintro e w' ⟨rfl, rfl⟩
  cases hln : ss.all lnB
  · clear hln hs hn hl hz
    go_wp2_with fail
    refine (readWorks_any he).mono ?_; rintro e w3 ⟨rfl, b3⟩
    go_wp2_with fail
    go_ret
    exact ⟨rfl, b3⟩
  have HLN := Lib.hid hln
  clear hln
  cases hai : areI ns ls
  · have HAI := Lib.hid hai
    clear hai hs hz
    go_wp2_with fail
    refine (areImports_any B C ns ls cap2 cap3 _ hn hl (by unfold maxLen; omega) (by unfold maxLen; omega)).mono ?_; rintro e w1 ⟨rfl, hd⟩; rw [HAI.out]
    have he1 := he.below hd.below
    clear hn hl he
    go_wp2_with fail
    refine (readWorks_any he1).mono ?_; rintro e w3 ⟨rfl, b3⟩
    go_wp2_with fail
    go_ret
    exact ⟨rfl, hd.below.trans (b3.mono hd.below.size)⟩
  have HAI := Lib.hid hai
  clear hai
  go_wp2_with fail
  refine (areImports_any B C ns ls cap2 cap3 _ hn hl (by unfold maxLen; omega) (by unfold maxLen; omega)).mono ?_; rintro e w1 ⟨rfl, hd⟩; rw [HAI.out]
  have he1 := he.below hd.below
  have hs1 := hs.below hd.below
  have hn1 := hn.below hd.below
  have hl1 := hl.below hd.below
  have hz1 := hz.below hd.below
  have hB1 := hd.below
  clear hs hn hl hz he hd
  cases hfo : foll s
  · have HFO := Lib.hid hfo
    clear hfo hs1 hn1 hl1 hz1
    go_wp2_with fail
    refine (follows_any s ms _).mono ?_; rintro e w' ⟨rfl, rfl⟩; rw [HFO.out]
    go_wp2_with fail
    refine (readWorks_any he1).mono ?_; rintro e w3 ⟨rfl, b3⟩
    go_wp2_with fail
    go_ret
    exact ⟨rfl, hB1.trans (b3.mono hB1.size)⟩
  have HFO := Lib.hid hfo
  clear hfo
  have HFIN := Lib.hid (file_read (zs := zs) gr rep HLN.out HAI.out HFO.out)
  have HAP := Lib.hid (areI_parts HAI.out)
  have hfs := fileS_size gr zs hcom HAP.out.2.1 NS.out.2 LS.out.2
  go_wp2_with fail
  refine (follows_any s ms _).mono ?_; rintro e w' ⟨rfl, rfl⟩; rw [HFO.out]
  go_wp2_with fail
  refine (comments_any A ss cap _ hs1 (by unfold maxLen; omega) (by omega)).mono ?_; rintro e w' ⟨rfl, rfl⟩
  clear hs1
  go_wp2_with fail
  refine (fileOf_any (comB ss) ns ls gr zs s _ hn1 hl1 hz1 HAP.out.1 HAP.out.2.1 mz hcom NS.out.2 LS.out.2 b2).mono ?_; rintro e w2 ⟨rfl, hB2⟩
  generalize fileS (comB ss) ns ls gr zs = FS at *
  have he2 := he1.below hB2
  have hl2 := hl1.below hB2
  have hBB := hB1.trans (hB2.mono hB1.size)
  clear hn1 hl1 hz1 he1 hB1 hB2 hcom
  have kb := fun (w : World) => Lib.run_convert_string_bytes (P := Tryd.prog) w 9 22 5 (FS ++ s) Tryd.underlying9 Tryd.underlying22 Tryd.underlying5
  go_wp2_with fail
  have hsz : (FS ++ s).size = FS.size + s.size := ByteArray.size_append
  have hh := imp_call (E := E) (w := w2) (s := FS ++ s) (n := FS.size + s.size) (c := grownCap w2 (FS.size + s.size) 0 5) most rep h1 (by rw [← hsz, size_list]) (by omega) he2
  refine hh.mono ?_; clear hh; rintro e w3 ⟨A1, cap1, B1, cap1', bb, L, ok, rfl, q1⟩
  obtain ⟨rfl, hbb, hLL⟩ : ok = true ∧ bb = FS.data.toList ∧ L = dl ls := by
    rcases q1.res with ⟨e1, e2⟩ | ⟨e1, e2, _⟩
    · rw [HFIN.out] at e2; injection e2 with e2; injection e2 with e2 e3; exact ⟨e1, e2.symm, e3.symm⟩
    · rw [HFIN.out] at e2; cases e2
  have HBB := Lib.hid hbb
  have HLL := Lib.hid hLL
  clear hbb hLL
  have he3 := he2.below q1.below
  have hl3 := hl2.below q1.below
  have hB3 := hBB.trans (q1.below.mono hBB.size)
  have t3 := q1.bts
  have s3 := q1.strs
  clear q1 he2 hl2 hBB HFIN kb
  have cut := cut_head FS s
  have c0 : (0 : Int) ≤ (FS.size : Int) := by omega
  have c1 : (FS.size : Int) ≤ (FS.size : Int) + (s.size : Int) := by omega
  have bd : Below w3.heap.size w3 w3.drew := below_drewN (Below.refl _ _) 1
  have he3d := he3.below bd
  have hl3d := hl3.below bd
  have t3d := t3.below bd
  have s3d := s3.below bd
  have ebb : (⟨bb.toArray⟩ : ByteArray) = FS := by rw [HBB.out]
  have HSM : Hid (same (L.map GI.bz) ls = true) := Lib.hid (by rw [HLL.out, bz_dl]; unfold same; simp)
  have hlL : (L.map GI.bz).length = L.length := by simp
  have lL : (L.map GI.bz).length ≤ maxLen := by rw [HLL.out, bz_dl]; unfold maxLen; omega
  have lls : ls.length ≤ maxLen := by unfold maxLen; omega
  clear he3 hl3 t3 s3 HLN HAI HFO HAP f1 f2 f3 NS LS HLL
  go_wp2_with fail
  have k3 := t3d.conv (P := Tryd.prog) (dst := 9) Tryd.underlying22 Tryd.underlying5 Tryd.underlying9 cap1
  rw [ebb] at k3
  go_region_held3 (fun w' => (convert 22 9 (.slice A1 bb.length cap1)).run Tryd.prog w' = .ok (.string FS) w') (first | exact k3 | exact k4 | exact k5) (first | (go_at_call 11; refine (readWorks_any he3d).mono ?_; rintro e w4 ⟨rfl, b4⟩; have s4 := s3d.below b4; have l4 := hl3d.below b4; have t4 := t3d.below b4; have k4 := t4.conv (P := Tryd.prog) (dst := 9) Tryd.underlying22 Tryd.underlying5 Tryd.underlying9 cap1; rw [ebb] at k4) | (go_at_call 14; refine (same_anyN _ _ _ _ (L.map GI.bz) ls hlL rfl _ _ _ s4 l4 lL lls).mono ?_; rintro e w5 ⟨rfl, hd5⟩; rw [HSM.out]; have k5 := (t4.below hd5.below).conv (P := Tryd.prog) (dst := 9) Tryd.underlying22 Tryd.underlying5 Tryd.underlying9 cap1; rw [ebb] at k5))
  go_wp2_with fail
  go_ret
  exact ⟨rfl, (hB3.trans (bd.mono hB3.size)).trans ((b4.trans (hd5.below.mono b4.size)).mono (Nat.le_trans hB3.size bd.size))⟩
end Go.Proofs.YtgplcbobomainaaDoor
