/- The tied card of laws.FnIsoTree: for every list of files and every volume number the law answers true and leaves its arguments as they were. Conditions: the package-level variables unicode/utf8.first, unicode/utf8.acceptRanges and io.EOF hold what the program text lays (the card ties them). -/
import Derived.Test.YtfppgplboomdbaaGreatDoorMPart26
import Derived.Test.YtfppgplboomdbaaGreatDoorMZ3
namespace Go.Proofs.YtfppgplboomdbaaGreatDoor
open Go.ChangeShapes Go.WideShapes Go.ChangeAt Go.RowKit Go.Deep

set_option maxRecDepth 100000 in
theorem tree_said : Rows.FnIsoTreeSaid :=
  OpenClaim.holds_of_cond 3 Tryz.f3 rfl rfl rfl rfl rfl rfl rfl ⟨rfl, rfl, rfl, rfl, rfl⟩ rfl rfl rfl rfl rfl tree_named Tryz.func3 tree_closed tree_inst tree_wrap
    (fun os started H enc _ F => by rw [OpenClaim.pre_eq_preRow]; exact tree_lifted os started H enc F)
set_option maxRecDepth 100000 in
theorem tree_card : Rows.FnIsoTreeCardSaid :=
  Claim7.holds_tied_plain_at .later [] _ _ _ _ tree_said (fun _ h => by cases h) (by as_aux_lemma => kernel_rfl) (fun _ h => by cases h) fnIsoTree_row_tie rfl ⟨rfl, rfl⟩ (by as_aux_lemma => kernel_rfl) rfl tree_plain (by as_aux_lemma => kernel_rfl)
#print axioms tree_card
end Go.Proofs.YtfppgplboomdbaaGreatDoor
