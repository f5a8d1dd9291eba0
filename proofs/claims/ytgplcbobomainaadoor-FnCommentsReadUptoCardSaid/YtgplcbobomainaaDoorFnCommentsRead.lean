/-
  The law FnCommentsRead returns true: the leading comments and spaces of a file are read, of both forms, by both packages. Conditions: what the law reads is of bulk at most 1048576; the errors that the row lists lie as the program lays them.
-/
import Derived.Test.YtgplcbobomainaaDoorFrameE
import Derived.Test.YtgplcbobomainaaDoorFrameV
import Derived.Test.YtgplcbobomainaaDoorLwE
import Derived.WalkKit
import Derived.Below
import Derived.ShutString
namespace Go.Proofs.YtgplcbobomainaaDoor.fnCommentsRead
open Go.ChangeShapes Go.WideShapes Go.ChangeAt Go.RowKit
open Go.ChangeMaps (open_string shut_string)
set_option linter.unusedVariables false

theorem own : ownKnob Tryd.prog.godebug = none := by kernel_rfl
theorem laidOut : laidOutB Tryd.prog = true := by kernel_rfl

set_option maxRecDepth 100000 in
theorem contract (H : Type) (enc : TypeId × Value → H) (W : World) (base : Nat) (args : Array Value) (ds gs : List (DataW H)) (before : List MemPlace)
    (hval : ∀ (j : Nat) t v, Tryd.f7.params[j]? = some t → args[j]? = some v → Value.okWide Tryd.prog W .any base t v)
    (hW : DataW.Whole enc Tryd.prog Tryd.f7.params.toList Rows.fnCommentsReadSpec.vars false W args.toList ds gs before) (hL : laidMetH Tryd.prog Rows.fnCommentsReadUptoRow.laid W) (hk : Rows.uptoSmall H (ds ++ gs) = true) :
    Calls Tryd.prog 7 args W fun e W' => ∃ v, e = .returned v ∧ Rows.fnCommentsReadSpec.post enc Tryd.prog Tryd.f7 false true false false W args v W' := by
  have hW' := hW
  obtain ⟨p, q, hA0, hV, rfl, hfz, hnd⟩ := hW
  have hA : DataW.TrodAll enc Tryd.prog W 0 (fun _ => true) true Tryd.f7.params.toList args.toList ds p := hA0
  rw [Tryd.params7] at hA hval
  obtain ⟨v0, vs0, d0, ds0, p0, q0, hargs, rfl, rfl, h0, r0⟩ := trodAll_cons hA
  obtain ⟨v1, vs1, d1, ds1, p1, q1, rfl, rfl, rfl, h1, r1⟩ := trodAll_cons r0
  obtain ⟨v2, vs2, d2, ds2, p2, q2, rfl, rfl, rfl, h2, r2⟩ := trodAll_cons r1
  obtain ⟨v3, vs3, d3, ds3, p3, q3, rfl, rfl, rfl, h3, r3⟩ := trodAll_cons r2
  obtain ⟨rfl, rfl, rfl⟩ := trodAll_nil r3
  obtain rfl : args = #[v0, v1, v2, v3] := by cases args; simp_all
  obtain ⟨a0, len0, cap0, rfl⟩ := okWide_slice Tryd.underlying32 (hval 0 _ v0 rfl rfl)
  have k0 := h0
  have lt0 : ∀ x ∈ p0, x.block < W.heap.size := by obtain ⟨m, hm⟩ := k0; exact DataW.trod_lt m _ _ _ hm
  obtain ⟨ss0, hl0, w0, hc0, hm0, bk0⟩ : ∃ ss : List Int, len0 = ss.length ∧ Ints .i64 W a0 ss ∧ ss.length ≤ cap0 ∧ cap0 ≤ maxLen ∧ ss.length ≤ Rows.uptoBulk d0 := by
    obtain ⟨fuel, hf⟩ := h0
    exact ints_of_trodU Tryd.underlying32 Tryd.underlying3 (by kernel_rfl) (by simpa [Value.cells] using hf) lt0
  subst hl0
  obtain ⟨a1, len1, cap1, rfl⟩ := okWide_slice Tryd.underlying23 (hval 1 _ v1 rfl rfl)
  have k1 := h1
  have lt1 : ∀ x ∈ p1, x.block < W.heap.size := by obtain ⟨m, hm⟩ := k1; exact DataW.trod_lt m _ _ _ hm
  obtain ⟨ss1, hl1, w1, hc1, hm1, bk1⟩ : ∃ ss : List ByteArray, len1 = ss.length ∧ Strs W a1 ss ∧ ss.length ≤ cap1 ∧ cap1 ≤ maxLen ∧ (ss.map fun s => s.size + 1).sum ≤ Rows.uptoBulk d1 := by
    obtain ⟨fuel, hf⟩ := h1
    exact strs_of_trodU Tryd.underlying23 Tryd.underlying9 cells_str (by simpa [Value.cells] using hf) lt1
  subst hl1
  obtain ⟨a2, rfl, rfl, rfl, w2⟩ := open_string Tryd.underlying9 (hval 2 _ v2 rfl rfl) h2
  obtain ⟨a3, rfl, rfl, rfl, w3⟩ := open_int Tryd.underlying3 (hval 3 _ v3 rfl rfl) h3
  clear hA0
  obtain ⟨E, E2, he, he2, vS, vN, vs, vn⟩ := errs9_of_laid (W := W) hL
  obtain ⟨rfl, rfl⟩ := hV.unique (vars_read4 enc Tryd.underlying48 gINul tINul (vN) trivial gISyn tISyn (vS) trivial gBNul tBNul (vn) trivial gBSyn tBSyn (vs) trivial _)
  have hbulk := of_decide_eq_true hk
  simp only [List.cons_append, List.nil_append, Rows.uptoBulkAll, Rows.uptoBulk] at hbulk
  have bs0 : ss0.length ≤ 1048576 := by omega
  have bs1 : (ss1.map fun s => s.size + 1).sum ≤ 1048576 := by omega
  have bs2 : a2.size ≤ 1048576 := by rw [size_list]; omega
  refine (commentsReadArgs a0 ss0 cap0 a1 ss1 cap1 a2 a3 W w0 (Nat.le_trans hc0 hm0) w1 (Nat.le_trans hc1 hm1) w2 (wf_i64 w3) bs0 bs1 bs2 he he2).mono fun e W' ⟨he, bel⟩ => ?_
  subst he
  exact ⟨_, rfl, _, _, _, [], _, _, hW', trodAll_mk1 (shut_bool Tryd.underlying4 _), (trodAll_cons_mk (Below.trod laidOut (by kernel_rfl) (of_decide_eq_true (by kernel_rfl)) k0 bel lt0) (trodAll_cons_mk (Below.trod laidOut (by kernel_rfl) (of_decide_eq_true (by kernel_rfl)) k1 bel lt1) (trodAll_cons_mk (shut_string Tryd.underlying9 w2) (trodAll_cons_mk (shut_int Tryd.underlying3 w3) trodAll_mk0)))), vars_read4 enc Tryd.underlying48 gINul tINul (var_keep vN bel) trivial gISyn tISyn (var_keep vS bel) trivial gBNul tBNul (var_keep vn bel) trivial gBSyn tBSyn (var_keep vs bel) trivial _, bel.frame _, fun h => by cases h⟩

/-- A world for the witness: the door's own. -/
def argsW : Array Value := #[.slice none 0 0, .slice none 0 0, .string ByteArray.empty, .int .i64 0]
theorem door_met (os : Os) : laidMet Tryd.prog Rows.fnCommentsReadUptoRow.laid ((World.doorLaid Tryd.prog 400 os).forCall (fun _ _ => 0) ⟨#[], argsW, []⟩).memory :=
  laidMet_of_run' 8 (by kernel_rfl) (by kernel_rfl)
theorem reads (os : Os) {H : Type} (enc : TypeId × Value → H) : ∃ x, DataW.whole enc Tryd.prog ((World.doorLaid Tryd.prog 400 os).forCall (fun _ _ => 0) ⟨#[], argsW, []⟩).memory Tryd.f7.params.toList Rows.fnCommentsReadSpec.vars false argsW.toList 8 = some x ∧ Rows.uptoSmall H (x.1 ++ x.2.1) = true := by
  have h : (DataW.whole enc Tryd.prog ((World.doorLaid Tryd.prog 400 os).forCall (fun _ _ => 0) ⟨#[], argsW, []⟩).memory Tryd.f7.params.toList Rows.fnCommentsReadSpec.vars false argsW.toList 8).map (fun x => Rows.uptoSmall H (x.1 ++ x.2.1)) = some true := by kernel_rfl
  obtain ⟨x, hx, hk⟩ := Option.map_eq_some_iff.1 h
  exact ⟨x, hx, hk⟩

set_option maxRecDepth 100000 in
theorem lifted (os : Os) (started : os.Started) (H : Type) (enc : TypeId × Value → H) (F : Stop.Interp) :
    ReturnsInHanded {} Tryd.checked os 7 .any ((Rows.OpenSpec.upto Rows.fnCommentsReadSpec).preRow enc Tryd.prog Tryd.f7 Rows.fnCommentsReadUptoRow.domain false Rows.fnCommentsReadUptoRow.laid) (((Rows.OpenSpec.upto Rows.fnCommentsReadSpec).at F).post enc Tryd.prog Tryd.f7 false true false false) := by
  obtain ⟨x, hx, hsm⟩ := reads os enc
  refine returnsInHanded_of_row (C := Tryd.checked) (s := Rows.OpenSpec.upto Rows.fnCommentsReadSpec) own started (by kernel_rfl) Tryd.func7
    (witness_row_atRef (enc := enc) (C := Tryd.checked) false (World.doorLaid Tryd.prog 400 os) argsW rfl (by kernel_rfl) (by kernel_rfl) (by kernel_rfl)
      (OpenSpec.preRow_of_cond 8 hx rfl (fun k hk => by cases hk; exact hsm) (by kernel_rfl) (door_met os))) ?_
  intro W base args ds gs before hval hW _ hcond _ hL _ _
  exact contract H enc W base args ds gs before hval hW hL (hcond _ rfl)

theorem said : Rows.FnCommentsReadUptoSaid :=
  OpenClaim.holds_of_cond 7 Tryd.f7 rfl rfl rfl rfl rfl rfl rfl ⟨rfl, rfl, rfl, rfl, rfl⟩ rfl rfl rfl rfl rfl (by kernel_rfl) Tryd.func7 (by kernel_rfl)
    (of_decide_eq_true (by kernel_rfl)) (by unfold Func.isWrapper; first | (rw [if_pos (by decide +kernel)]; kernel_rfl) | (rw [if_neg (by decide +kernel)]; exact ⟨rfl, rfl⟩))
    (fun os started H enc _ F => by rw [OpenClaim.pre_eq_preRow]; exact lifted os started H enc F)

theorem plain (f : FuncId) (fn : Func) (hf : Tryd.pinned.checked.prog.funcNamed "loop.example/pub-g01463/laws.FnCommentsRead" = some f) (hfn : Tryd.pinned.checked.prog.funcs[f]? = some fn) :
    true = Tryd.pinned.checked.prog.looks [] ∧ ∀ (j : Nat) t, fn.params[j]? = some t → Tryd.pinned.checked.prog.wantsStandIn t = false := by
  obtain rfl : f = 7 := Option.some.inj ((show Tryd.prog.funcNamed "loop.example/pub-g01463/laws.FnCommentsRead" = some 7 by kernel_rfl).symm.trans hf) |>.symm
  obtain rfl : fn = Tryd.f7 := (Option.some.inj (Tryd.func7.symm.trans hfn)).symm
  refine ⟨by kernel_rfl, fun j t ht => ?_⟩
  have hall : (Tryd.f7.params.all fun t => !Tryd.prog.wantsStandIn t) = true := by kernel_rfl
  have := Array.all_eq_true_iff_forall_mem.1 hall t (Array.mem_of_getElem? ht)
  exact (by simpa using this : Tryd.prog.wantsStandIn t = false)

theorem proved : Rows.FnCommentsReadUptoCardSaid :=
  Claim7.holds_tied_plain_at .later [] _ _ _ _ said (fun _ h => by cases h) (by kernel_rfl) (fun _ h => by cases h) fnCommentsReadUpto_row_tie rfl ⟨rfl, rfl⟩ (by kernel_rfl) rfl plain (by kernel_rfl)
#print axioms proved
end Go.Proofs.YtgplcbobomainaaDoor.fnCommentsRead
