/-
  Bytes that are copied into new memory; reading; bytes.NewReader.
-/
import Derived.Test.YtgplcbobomainaaDoorRdO
import Derived.Test.YtgplcbobomainaaDoorReB
import Derived.Deep.RegionLaw
namespace Go.Proofs.YtgplcbobomainaaDoor
open Go.RowKit
set_option linter.unusedVariables false
set_option linter.unusedSimpArgs false

/-- A copy of bytes in new memory. -/
structure Fresh (base : Nat) (w w' : World) (g cap : Nat) (l : List UInt8) : Prop where
  lc : l.length ≤ cap
  cm : cap ≤ maxLen
  bg : base ≤ g
  d : BtsD w' g (some ⟨g, 0, none⟩) l
  below : Below base w w'
theorem own_empty (w : World) : (w.alloc (.cells #[] 5)).ownsRow w.heap.size 5 1 (.slice (some ⟨w.heap.size, 0, none⟩) 0 0) 0 [] :=
  ⟨rfl, .inr ⟨w.heap.size, 0, #[], rfl, Nat.le_refl _, heap_alloc_new w _, Nat.le_refl _, by decide, rfl, rfl⟩⟩
theorem run_fresh (ty : TypeId) {w : World} {b base c : Nat} {A : Option Addr} {l : List UInt8} (hown : w.ownsRow base 5 1 (.slice (some ⟨b, 0, none⟩) 0 0) 0 []) (hb : base ≤ b) (hlt : b < w.heap.size) (hbt : Bts w A l) (hl : l.length ≤ 4294967296) :
    ∃ g cap w', (Builtin.append_ #[22, 22] ty #[.slice (some ⟨b, 0, none⟩) 0 0, .slice A l.length c]).run Tryd.prog w = .ok (.slice (some ⟨g, 0, none⟩) l.length cap) w' ∧ Fresh base w w' g cap l := by
  obtain ⟨i0, hi0, hz0, hz1, hz2⟩ := info_parts u8_info
  have ht : Tryd.prog.underlying 22 = some (.slice 5) := Tryd.underlying22
  by_cases h0 : l = []
  · subst h0
    refine ⟨b, 0, w, ?_, Nat.le_refl _, by decide, hb, ⟨hlt, Bts.nil_ _ _, fun a e => by cases e; rfl⟩, Below.refl _ _⟩
    rcases A with _ | ad
    · simp [Builtin.append_, run_underlying ht, sizeOf, typeInfo, hi0, Builtin.lenOf, Builtin.firstCells, storeCells]
    · simp [Builtin.append_, run_underlying ht, sizeOf, typeInfo, hi0, Builtin.lenOf, Builtin.firstCells, storeCells, loadCells, loadCellsFrom]
  · have hp : 0 < l.length := List.length_pos_iff.2 h0
    obtain ⟨ad, rfl, hab, hc⟩ := hbt.2 hp
    obtain ⟨g, cap, w', hr, h2, h3, h4, h5⟩ := run_append_lies (P := Tryd.prog) (w := w) 22 ty base 5 i0 (.int .u8 0) 1 1 ht hi0 hz0 hz1 hz2 rfl (by decide) (.slice (some ⟨b, 0, none⟩) 0 0) 0 [] hown ad l.length c (bv l) (by rw [bv_len]; omega) hc (bv_one l) hp (by unfold maxLen; omega) (by omega) (by omega) w.heap.size rfl
    rw [Nat.zero_add, List.nil_append] at h2
    rw [Nat.zero_add] at hr
    obtain ⟨g', cap', e, k1, k2, k3, k4⟩ := own_form h2 hp
    injection e with e1 e2 e3
    subst e3
    refine ⟨g, cap, w', hr, k1, k2, ?_, ⟨h5, Reads.of_own h2, fun a e => by cases e; rfl⟩, (Below.refl _ _).grown h3 (by omega) (fun k e => by cases e; exact hb)⟩
    injection e1 with e1; injection e1 with e1; omega
section
variable {w : World} {ops : Array Oper} {rest : List Oper} {o : Oper} {a : Act} {Q : Exit → Act → World → Prop} {K : Act → World → Prop} {E : Prop}
theorem wp_fresh (s x : Operand) (ho : o.op = .call { callee := .builtin .append, args := #[s, x], argTypes := #[22, 22] }) (b base c : Nat) (A : Option Addr) (l : List UInt8) (hs : a.eval s = .slice (some ⟨b, 0, none⟩) 0 0) (hx : a.eval x = .slice A l.length c)
    (hown : w.ownsRow base 5 1 (.slice (some ⟨b, 0, none⟩) 0 0) 0 []) (hb : base ≤ b) (hlt : b < w.heap.size) (hbt : Bts w A l) (hl : l.length ≤ 4294967296)
    (h : ∀ g cap w', Fresh base w w' g cap l → K (a.put o.dst (.slice (some ⟨g, 0, none⟩) l.length cap)) w') : o.wp Tryd.prog a w K Q := by
  obtain ⟨g, cap, w', hr, hf⟩ := run_fresh o.type (c := c) hown hb hlt hbt hl
  unfold Oper.wp execOp
  simp only [ho, resolve, invoke, builtin, Sem.run_bind, Sem.run_pure, Result.andThen_ok, List.map_toArray, List.map_cons, List.map_nil, hs, hx, hr]
  exact h g cap w' hf
theorem wpList_fresh (hgd : o.guard = none) (s x : Operand) (ho : o.op = .call { callee := .builtin .append, args := #[s, x], argTypes := #[22, 22] }) (b base c : Nat) (A : Option Addr) (l : List UInt8) (hs : a.eval s = .slice (some ⟨b, 0, none⟩) 0 0) (hx : a.eval x = .slice A l.length c)
    (hown : w.ownsRow base 5 1 (.slice (some ⟨b, 0, none⟩) 0 0) 0 []) (hb : base ≤ b) (hlt : b < w.heap.size) (hbt : Bts w A l) (hl : l.length ≤ 4294967296)
    (h : ∀ g cap w', Fresh base w w' g cap l → wpList Tryd.prog ops Q rest (a.put o.dst (.slice (some ⟨g, 0, none⟩) l.length cap)) w') : wpList Tryd.prog ops Q (o :: rest) a w :=
  wpList_plain hgd fun _ hK => wp_fresh s x ho b base c A l hs hx hown hb hlt hbt hl fun g cap w' hf => hK _ _ (h g cap w' hf)
theorem step_fresh (hgd : o.guard = none) (s x : Operand) (ho : o.op = .call { callee := .builtin .append, args := #[s, x], argTypes := #[22, 22] }) (b base c : Nat) (A : Option Addr) (l : List UInt8) (hs : a.eval s = .slice (some ⟨b, 0, none⟩) 0 0) (hx : a.eval x = .slice A l.length c)
    (hown : w.ownsRow base 5 1 (.slice (some ⟨b, 0, none⟩) 0 0) 0 []) (hb : base ≤ b) (hlt : b < w.heap.size) (hbt : Bts w A l) (hl : l.length ≤ 4294967296)
    (h : ∀ g cap w', Fresh base w w' g cap l → K (a.put o.dst (.slice (some ⟨g, 0, none⟩) l.length cap)) w') :
    if Region.wanted o (yielded ops a.tmps) = true then Oper.wp Tryd.prog o a w K Q else E := by
  have hw : Region.wanted o (yielded ops a.tmps) = true := by simp [Region.wanted, hgd]
  rw [if_pos hw]
  exact wp_fresh s x ho b base c A l hs hx hown hb hlt hbt hl h
end

/-- What reading leaves: a source of its own. -/
def SrcPost (K : SK) (base : Nat) (w : World) (data : List UInt8) (e : Ending) (w' : World) : Prop :=
  ∃ s d, e = .returned (.pointer (some ⟨s, 0, none⟩)) ∧ SrcAt K w' s d data ∧ d ≠ s ∧ base ≤ s ∧ base ≤ d ∧ Below base w w'

theorem src_new {w : World} {g cap : Nat} {data : List UInt8} {w2 : World} {o : Obj} {mi : Int} (h1 : 1 ≤ mi) (h2 : mi ≤ 4096) (hf : Fresh w.heap.size (w.alloc o) w2 g cap data) :
    SrcAt .own (w2.alloc (.cells #[.slice (some ⟨g, 0, none⟩) data.length cap, .int .i64 mi] 72)) w2.heap.size g data ∧ g ≠ w2.heap.size ∧ w.heap.size ≤ w2.heap.size ∧ w.heap.size ≤ g ∧
      Below w.heap.size w (w2.alloc (.cells #[.slice (some ⟨g, 0, none⟩) data.length cap, .int .i64 mi] 72)) := by
  have hb : Below w.heap.size w w2 := ((Below.refl _ _).alloc (Nat.le_refl _) o).trans hf.below
  have hlt := hf.d.lt
  obtain ⟨m, rfl⟩ : ∃ m : Nat, mi = (m : Int) := ⟨mi.toNat, by omega⟩
  exact ⟨⟨_, cap, m, heap_alloc_new w2 _, by omega, by omega, hf.lc, hf.cm, hf.d.keep (by simp) (Below.heap_alloc _ _ _ hlt)⟩, by omega, hb.size, hf.bg, hb.alloc hb.size _⟩
set_option maxRecDepth 100000 in
set_option maxHeartbeats 1000000 in
theorem reading_any {A : Option Addr} {c : Nat} {data : List UInt8} {w : World} (most : Int) (hm : IntKind.i64.wrap most = most) (hbt : Bts w A data) (hl : data.length ≤ 4294967296) :
    Calls Tryd.prog 28 #[.slice A data.length c, .int .i64 most] w (SrcPost .own w.heap.size w data) := by
  have ho := own_empty w
  have hb1 : Bts (w.alloc (.cells #[] 5)) A data := hbt.below ((Below.refl _ _).alloc (Nat.le_refl _) _)
  have hz : (w.alloc (.cells #[] 5)).heap.size = w.heap.size + 1 := by simp
  go_enter Tryd.func28, Tryd.ntmps28
  go_wp2_with (at_builtin; refine wpList_fresh rfl (.tmp 5) (.tmp 6) rfl w.heap.size w.heap.size c A data rfl rfl ho (Nat.le_refl _) (by simp) hb1 hl ?_; intro g cap w2 hf)
  all_goals
    go_ret
    exact ⟨_, g, rfl, src_new (by omega) (by omega) hf⟩

theorem byt_new {A : Option Addr} {c d : Nat} {l : List UInt8} {w : World} (h : BtsD w d A l) (hc : l.length ≤ c) (hm : c ≤ maxLen) :
    SrcAt .byt (w.alloc (.cells #[.slice A l.length c, .int .i64 0, .int .i64 (-1)] 90)) w.heap.size d l :=
  ⟨A, c, 0, l, -1, heap_alloc_new w _, Nat.zero_le _, hc, hm, h.keep (by simp) (Below.heap_alloc _ _ _ h.lt), rfl⟩
theorem newBytes_any {A : Option Addr} {c d : Nat} {l : List UInt8} {w : World} (h : BtsD w d A l) (hc : l.length ≤ c) (hm : c ≤ maxLen) :
    Calls Tryd.prog 47 #[.slice A l.length c] w fun e w' => ∃ s, e = .returned (.pointer (some ⟨s, 0, none⟩)) ∧ SrcAt .byt w' s d l ∧ d ≠ s ∧ w.heap.size ≤ s ∧ Below w.heap.size w w' := by
  have h1 := byt_new h hc hm
  have h2 := h.lt
  go_enter Tryd.func47, Tryd.ntmps47
  go_wp2_with fail
  go_ret
  exact ⟨_, rfl, h1, by omega, Nat.le_refl _, (Below.refl _ _).alloc (Nat.le_refl _) _⟩
set_option maxHeartbeats 1000000 in
theorem zzReadComments_any {E : EB} {w0 : World} {A : Option Addr} {c d : Nat} {data : List UInt8} {w : World} (h : BtsD w d A data) (hc : data.length ≤ c) (hm : c ≤ maxLen) (hbd : w0.heap.size ≤ d) (hb : Below w0.heap.size w0 w)
    (he : E.Ok 7 8 w0) (hl : data.length ≤ 4294967296) :
    Calls Tryd.prog 36 #[.slice A data.length c] w (CmOut w0 (readCm data)) := by
  go_enter Tryd.func36, Tryd.ntmps36
  go_wp2_with fail
  refine (newBytes_any h hc hm).mono ?_; rintro e w1 ⟨s, rfl, h1, h2, h3, h4⟩
  clear h
  go_wp2_with fail
  refine (GB.readComments_any (K := .byt) (E := E) (w0 := w0) h1 h2 (by have := hb.size; omega) hbd (hb.trans (h4.mono hb.size)) he hl).mono ?_; rintro e w2 ⟨v, er, rfl, hR⟩
  go_wp2_with fail
  go_ret2
  exact ⟨_, _, rfl, hR⟩
end Go.Proofs.YtgplcbobomainaaDoor
