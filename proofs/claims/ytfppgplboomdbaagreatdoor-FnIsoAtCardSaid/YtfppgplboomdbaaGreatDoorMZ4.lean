/- Part of the proofs of laws.FnIsoTree and laws.FnIsoAt: lemmas and contracts of functions that the two laws reach, each under the hypotheses that its own statement names. -/
import Derived.Test.YtfppgplboomdbaaGreatDoorMZ0
namespace Go.Proofs.YtfppgplboomdbaaGreatDoor
open Go.ChangeShapes Go.WideShapes Go.ChangeAt Go.RowKit Go.Deep
set_option maxHeartbeats 20000000 in
set_option maxRecDepth 100000 in
theorem at_closed : joinedFacts Tryz.pinned.checked.prog 4 Tryz.f4 (OpenSpec.ofChange Rows.fnIsoAtSpec).bare Rows.fnIsoAtRow = true := by
  unfold joinedFacts
  simp only [Bool.and_eq_true]
  repeat' apply And.intro
  all_goals as_aux_lemma => kernel_rfl
theorem at_named : Tryz.pinned.checked.prog.funcNamed Rows.fnIsoAtRow.func = some 4 := by kernel_rfl
set_option maxHeartbeats 20000000 in
set_option maxRecDepth 100000 in
theorem at_inst : Tryz.f4.isInstance Tryz.pinned.checked.prog Rows.fnIsoAtRow.origin Rows.fnIsoAtRow.targs := of_decide_eq_true (by kernel_rfl)
set_option maxHeartbeats 20000000 in
set_option maxRecDepth 100000 in
theorem at_wrap : Tryz.f4.isWrapper Tryz.pinned.checked.prog Rows.fnIsoAtRow.wrapper Rows.fnIsoAtRow.mainSum := by
  unfold Func.isWrapper
  first
    | (rw [if_pos (by decide +kernel)]; kernel_rfl)
    | (rw [if_neg (by decide +kernel)]; exact ⟨rfl, rfl⟩)
set_option maxHeartbeats 20000000 in
set_option maxRecDepth 100000 in
theorem at_plain (f : FuncId) (fn : Func) (hf : Tryz.pinned.checked.prog.funcNamed Rows.fnIsoAtRow.func = some f) (hfn : Tryz.pinned.checked.prog.funcs[f]? = some fn) :
    true = Tryz.pinned.checked.prog.looks [] ∧ ∀ (j : Nat) t, fn.params[j]? = some t → Tryz.pinned.checked.prog.wantsStandIn t = false := by
  obtain rfl : f = 4 := Option.some.inj (at_named.symm.trans hf) |>.symm
  obtain rfl : fn = Tryz.f4 := (Option.some.inj (Tryz.func4.symm.trans hfn)).symm
  refine ⟨by as_aux_lemma => kernel_rfl, fun j t ht => ?_⟩
  rw [Tryz.params4] at ht
  have hm : t ∈ [22, 5, 35, 35] := by simpa using Array.mem_of_getElem? ht
  have hall : ([22, 5, 35, 35].all fun u => !Tryz.prog.wantsStandIn u) = true := by as_aux_lemma => kernel_rfl
  exact (show Tryz.prog.wantsStandIn t = false by simpa using List.all_eq_true.1 hall t hm)
end Go.Proofs.YtfppgplboomdbaaGreatDoor
