/-
  The law FnImportsRead returns true: the imports of a file are told as they stand there, single ones or a group, whatever spaces and comments stand between, and all up to what follows is read. Conditions: what the law reads is of bulk at most 1048576; the errors that the row lists lie as the program lays them.
-/
import Derived.Test.YtgplcbobomainaaDoorFrameE
import Derived.Test.YtgplcbobomainaaDoorFrameV
import Derived.Test.YtgplcbobomainaaDoorLwI
import Derived.WalkKit
import Derived.Below
import Derived.ShutString
namespace Go.Proofs.YtgplcbobomainaaDoor.fnImportsRead
open Go.ChangeShapes Go.WideShapes Go.ChangeAt Go.RowKit
open Go.ChangeMaps (open_string shut_string)
set_option linter.unusedVariables false

theorem own : ownKnob Tryd.prog.godebug = none := by kernel_rfl
theorem laidOut : laidOutB Tryd.prog = true := by kernel_rfl

set_option maxRecDepth 100000 in
theorem contract (H : Type) (enc : TypeId × Value → H) (W : World) (base : Nat) (args : Array Value) (ds gs : List (DataW H)) (before : List MemPlace)
    (hval : ∀ (j : Nat) t v, Tryd.f5.params[j]? = some t → args[j]? = some v → Value.okWide Tryd.prog W .any base t v)
    (hW : DataW.Whole enc Tryd.prog Tryd.f5.params.toList Rows.fnImportsReadSpec.vars false W args.toList ds gs before) (hL : laidMetH Tryd.prog Rows.fnImportsReadUptoRow.laid W) (hk : Rows.uptoSmall H (ds ++ gs) = true) :
    Calls Tryd.prog 5 args W fun e W' => ∃ v, e = .returned v ∧ Rows.fnImportsReadSpec.post enc Tryd.prog Tryd.f5 false true false false W args v W' := by
  have hW' := hW
  obtain ⟨p, q, hA0, hV, rfl, hfz, hnd⟩ := hW
  have hA : DataW.TrodAll enc Tryd.prog W 0 (fun _ => true) true Tryd.f5.params.toList args.toList ds p := hA0
  rw [Tryd.params5] at hA hval
  obtain ⟨v0, vs0, d0, ds0, p0, q0, hargs, rfl, rfl, h0, r0⟩ := trodAll_cons hA
  obtain ⟨v1, vs1, d1, ds1, p1, q1, rfl, rfl, rfl, h1, r1⟩ := trodAll_cons r0
  obtain ⟨v2, vs2, d2, ds2, p2, q2, rfl, rfl, rfl, h2, r2⟩ := trodAll_cons r1
  obtain ⟨v3, vs3, d3, ds3, p3, q3, rfl, rfl, rfl, h3, r3⟩ := trodAll_cons r2
  obtain ⟨v4, vs4, d4, ds4, p4, q4, rfl, rfl, rfl, h4, r4⟩ := trodAll_cons r3
  obtain ⟨v5, vs5, d5, ds5, p5, q5, rfl, rfl, rfl, h5, r5⟩ := trodAll_cons r4
  obtain ⟨v6, vs6, d6, ds6, p6, q6, rfl, rfl, rfl, h6, r6⟩ := trodAll_cons r5
  obtain ⟨v7, vs7, d7, ds7, p7, q7, rfl, rfl, rfl, h7, r7⟩ := trodAll_cons r6
  obtain ⟨rfl, rfl, rfl⟩ := trodAll_nil r7
  obtain rfl : args = #[v0, v1, v2, v3, v4, v5, v6, v7] := by cases args; simp_all
  obtain ⟨a0, len0, cap0, rfl⟩ := okWide_slice Tryd.underlying23 (hval 0 _ v0 rfl rfl)
  have k0 := h0
  have lt0 : ∀ x ∈ p0, x.block < W.heap.size := by obtain ⟨m, hm⟩ := k0; exact DataW.trod_lt m _ _ _ hm
  obtain ⟨ss0, hl0, w0, hc0, hm0, bk0⟩ : ∃ ss : List ByteArray, len0 = ss.length ∧ Strs W a0 ss ∧ ss.length ≤ cap0 ∧ cap0 ≤ maxLen ∧ (ss.map fun s => s.size + 1).sum ≤ Rows.uptoBulk d0 := by
    obtain ⟨fuel, hf⟩ := h0
    exact strs_of_trodU Tryd.underlying23 Tryd.underlying9 cells_str (by simpa [Value.cells] using hf) lt0
  subst hl0
  obtain ⟨a1, len1, cap1, rfl⟩ := okWide_slice Tryd.underlying23 (hval 1 _ v1 rfl rfl)
  have k1 := h1
  have lt1 : ∀ x ∈ p1, x.block < W.heap.size := by obtain ⟨m, hm⟩ := k1; exact DataW.trod_lt m _ _ _ hm
  obtain ⟨ss1, hl1, w1, hc1, hm1, bk1⟩ : ∃ ss : List ByteArray, len1 = ss.length ∧ Strs W a1 ss ∧ ss.length ≤ cap1 ∧ cap1 ≤ maxLen ∧ (ss.map fun s => s.size + 1).sum ≤ Rows.uptoBulk d1 := by
    obtain ⟨fuel, hf⟩ := h1
    exact strs_of_trodU Tryd.underlying23 Tryd.underlying9 cells_str (by simpa [Value.cells] using hf) lt1
  subst hl1
  obtain ⟨a2, len2, cap2, rfl⟩ := okWide_slice Tryd.underlying23 (hval 2 _ v2 rfl rfl)
  have k2 := h2
  have lt2 : ∀ x ∈ p2, x.block < W.heap.size := by obtain ⟨m, hm⟩ := k2; exact DataW.trod_lt m _ _ _ hm
  obtain ⟨ss2, hl2, w2, hc2, hm2, bk2⟩ : ∃ ss : List ByteArray, len2 = ss.length ∧ Strs W a2 ss ∧ ss.length ≤ cap2 ∧ cap2 ≤ maxLen ∧ (ss.map fun s => s.size + 1).sum ≤ Rows.uptoBulk d2 := by
    obtain ⟨fuel, hf⟩ := h2
    exact strs_of_trodU Tryd.underlying23 Tryd.underlying9 cells_str (by simpa [Value.cells] using hf) lt2
  subst hl2
  obtain ⟨a3, rfl, rfl, rfl⟩ := open_bool Tryd.underlying4 (hval 3 _ v3 rfl rfl) h3
  obtain ⟨a4, len4, cap4, rfl⟩ := okWide_slice Tryd.underlying32 (hval 4 _ v4 rfl rfl)
  have k4 := h4
  have lt4 : ∀ x ∈ p4, x.block < W.heap.size := by obtain ⟨m, hm⟩ := k4; exact DataW.trod_lt m _ _ _ hm
  obtain ⟨ss4, hl4, w4, hc4, hm4, bk4⟩ : ∃ ss : List Int, len4 = ss.length ∧ Ints .i64 W a4 ss ∧ ss.length ≤ cap4 ∧ cap4 ≤ maxLen ∧ ss.length ≤ Rows.uptoBulk d4 := by
    obtain ⟨fuel, hf⟩ := h4
    exact ints_of_trodU Tryd.underlying32 Tryd.underlying3 (by kernel_rfl) (by simpa [Value.cells] using hf) lt4
  subst hl4
  obtain ⟨a5, rfl, rfl, rfl, w5⟩ := open_string Tryd.underlying9 (hval 5 _ v5 rfl rfl) h5
  obtain ⟨a6, rfl, rfl, rfl, w6⟩ := open_int Tryd.underlying3 (hval 6 _ v6 rfl rfl) h6
  obtain ⟨a7, rfl, rfl, rfl⟩ := open_bool Tryd.underlying4 (hval 7 _ v7 rfl rfl) h7
  clear hA0
  obtain ⟨E, he, vS, vN⟩ := errs7_of_laid (W := W) hL
  obtain ⟨rfl, rfl⟩ := hV.unique (vars_read2 enc gISyn tISyn Tryd.underlying48 (vS) trivial gINul tINul Tryd.underlying48 (vN) trivial _)
  have hbulk := of_decide_eq_true hk
  simp only [List.cons_append, List.nil_append, Rows.uptoBulkAll, Rows.uptoBulk] at hbulk
  have bs0 : (ss0.map fun s => s.size + 1).sum ≤ 1048576 := by omega
  have bs1 : (ss1.map fun s => s.size + 1).sum ≤ 1048576 := by omega
  have bs2 : (ss2.map fun s => s.size + 1).sum ≤ 1048576 := by omega
  have bs4 : ss4.length ≤ 1048576 := by omega
  have bs5 : a5.size ≤ 1048576 := by rw [size_list]; omega
  refine (importsReadArgs a0 ss0 cap0 a1 ss1 cap1 a2 ss2 cap2 a3 a4 ss4 cap4 a5 a6 a7 W w0 (Nat.le_trans hc0 hm0) w1 (Nat.le_trans hc1 hm1) w2 (Nat.le_trans hc2 hm2) w4 (Nat.le_trans hc4 hm4) w5 (wf_i64 w6) bs0 bs1 bs2 bs4 bs5 he).mono fun e W' ⟨he, bel⟩ => ?_
  subst he
  exact ⟨_, rfl, _, _, _, [], _, _, hW', trodAll_mk1 (shut_bool Tryd.underlying4 _), (trodAll_cons_mk (Below.trod laidOut (by kernel_rfl) (of_decide_eq_true (by kernel_rfl)) k0 bel lt0) (trodAll_cons_mk (Below.trod laidOut (by kernel_rfl) (of_decide_eq_true (by kernel_rfl)) k1 bel lt1) (trodAll_cons_mk (Below.trod laidOut (by kernel_rfl) (of_decide_eq_true (by kernel_rfl)) k2 bel lt2) (trodAll_cons_mk (shut_bool Tryd.underlying4 _) (trodAll_cons_mk (Below.trod laidOut (by kernel_rfl) (of_decide_eq_true (by kernel_rfl)) k4 bel lt4) (trodAll_cons_mk (shut_string Tryd.underlying9 w5) (trodAll_cons_mk (shut_int Tryd.underlying3 w6) (trodAll_cons_mk (shut_bool Tryd.underlying4 _) trodAll_mk0)))))))), vars_read2 enc gISyn tISyn Tryd.underlying48 (var_keep vS bel) trivial gINul tINul Tryd.underlying48 (var_keep vN bel) trivial _, bel.frame _, fun h => by cases h⟩

/-- A world for the witness: the door's own. -/
def argsW : Array Value := #[.slice none 0 0, .slice none 0 0, .slice none 0 0, .bool false, .slice none 0 0, .string ByteArray.empty, .int .i64 0, .bool false]
theorem door_met (os : Os) : laidMet Tryd.prog Rows.fnImportsReadUptoRow.laid ((World.doorLaid Tryd.prog 400 os).forCall (fun _ _ => 0) ⟨#[], argsW, []⟩).memory :=
  laidMet_of_run' 8 (by kernel_rfl) (by kernel_rfl)
theorem reads (os : Os) {H : Type} (enc : TypeId × Value → H) : ∃ x, DataW.whole enc Tryd.prog ((World.doorLaid Tryd.prog 400 os).forCall (fun _ _ => 0) ⟨#[], argsW, []⟩).memory Tryd.f5.params.toList Rows.fnImportsReadSpec.vars false argsW.toList 8 = some x ∧ Rows.uptoSmall H (x.1 ++ x.2.1) = true := by
  have h : (DataW.whole enc Tryd.prog ((World.doorLaid Tryd.prog 400 os).forCall (fun _ _ => 0) ⟨#[], argsW, []⟩).memory Tryd.f5.params.toList Rows.fnImportsReadSpec.vars false argsW.toList 8).map (fun x => Rows.uptoSmall H (x.1 ++ x.2.1)) = some true := by kernel_rfl
  obtain ⟨x, hx, hk⟩ := Option.map_eq_some_iff.1 h
  exact ⟨x, hx, hk⟩

set_option maxRecDepth 100000 in
theorem lifted (os : Os) (started : os.Started) (H : Type) (enc : TypeId × Value → H) (F : Stop.Interp) :
    ReturnsInHanded {} Tryd.checked os 5 .any ((Rows.OpenSpec.upto Rows.fnImportsReadSpec).preRow enc Tryd.prog Tryd.f5 Rows.fnImportsReadUptoRow.domain false Rows.fnImportsReadUptoRow.laid) (((Rows.OpenSpec.upto Rows.fnImportsReadSpec).at F).post enc Tryd.prog Tryd.f5 false true false false) := by
  obtain ⟨x, hx, hsm⟩ := reads os enc
  refine returnsInHanded_of_row (C := Tryd.checked) (s := Rows.OpenSpec.upto Rows.fnImportsReadSpec) own started (by kernel_rfl) Tryd.func5
    (witness_row_atRef (enc := enc) (C := Tryd.checked) false (World.doorLaid Tryd.prog 400 os) argsW rfl (by kernel_rfl) (by kernel_rfl) (by kernel_rfl)
      (OpenSpec.preRow_of_cond 8 hx rfl (fun k hk => by cases hk; exact hsm) (by kernel_rfl) (door_met os))) ?_
  intro W base args ds gs before hval hW _ hcond _ hL _ _
  exact contract H enc W base args ds gs before hval hW hL (hcond _ rfl)

theorem said : Rows.FnImportsReadUptoSaid :=
  OpenClaim.holds_of_cond 5 Tryd.f5 rfl rfl rfl rfl rfl rfl rfl ⟨rfl, rfl, rfl, rfl, rfl⟩ rfl rfl rfl rfl rfl (by kernel_rfl) Tryd.func5 (by kernel_rfl)
    (of_decide_eq_true (by kernel_rfl)) (by unfold Func.isWrapper; first | (rw [if_pos (by decide +kernel)]; kernel_rfl) | (rw [if_neg (by decide +kernel)]; exact ⟨rfl, rfl⟩))
    (fun os started H enc _ F => by rw [OpenClaim.pre_eq_preRow]; exact lifted os started H enc F)

theorem plain (f : FuncId) (fn : Func) (hf : Tryd.pinned.checked.prog.funcNamed "loop.example/pub-g01463/laws.FnImportsRead" = some f) (hfn : Tryd.pinned.checked.prog.funcs[f]? = some fn) :
    true = Tryd.pinned.checked.prog.looks [] ∧ ∀ (j : Nat) t, fn.params[j]? = some t → Tryd.pinned.checked.prog.wantsStandIn t = false := by
  obtain rfl : f = 5 := Option.some.inj ((show Tryd.prog.funcNamed "loop.example/pub-g01463/laws.FnImportsRead" = some 5 by kernel_rfl).symm.trans hf) |>.symm
  obtain rfl : fn = Tryd.f5 := (Option.some.inj (Tryd.func5.symm.trans hfn)).symm
  refine ⟨by kernel_rfl, fun j t ht => ?_⟩
  have hall : (Tryd.f5.params.all fun t => !Tryd.prog.wantsStandIn t) = true := by kernel_rfl
  have := Array.all_eq_true_iff_forall_mem.1 hall t (Array.mem_of_getElem? ht)
  exact (by simpa using this : Tryd.prog.wantsStandIn t = false)

theorem proved : Rows.FnImportsReadUptoCardSaid :=
  Claim7.holds_tied_plain_at .later [] _ _ _ _ said (fun _ h => by cases h) (by kernel_rfl) (fun _ h => by cases h) fnImportsReadUpto_row_tie rfl ⟨rfl, rfl⟩ (by kernel_rfl) rfl plain (by kernel_rfl)
#print axioms proved
end Go.Proofs.YtgplcbobomainaaDoor.fnImportsRead
