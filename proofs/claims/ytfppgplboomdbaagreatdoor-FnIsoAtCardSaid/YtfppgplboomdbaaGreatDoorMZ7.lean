/- The tied card of laws.FnIsoAt: for every list of files, every number of a file, every place and every count the law answers true and leaves its arguments as they were. Conditions: the package-level variables unicode/utf8.first, unicode/utf8.acceptRanges and io.EOF hold what the program text lays (the card ties them). -/
import Derived.Test.YtfppgplboomdbaaGreatDoorMZ5
import Derived.Test.YtfppgplboomdbaaGreatDoorMZ4
namespace Go.Proofs.YtfppgplboomdbaaGreatDoor
open Go.ChangeShapes Go.WideShapes Go.ChangeAt Go.RowKit Go.Deep

set_option maxRecDepth 100000 in
theorem at_said : Rows.FnIsoAtSaid :=
  OpenClaim.holds_of_cond 4 Tryz.f4 rfl rfl rfl rfl rfl rfl rfl ⟨rfl, rfl, rfl, rfl, rfl⟩ rfl rfl rfl rfl rfl at_named Tryz.func4 at_closed at_inst at_wrap
    (fun os started H enc _ F => by rw [OpenClaim.pre_eq_preRow]; exact at_lifted os started H enc F)
set_option maxRecDepth 100000 in
theorem at_card : Rows.FnIsoAtCardSaid :=
  Claim7.holds_tied_plain_at .later [] _ _ _ _ at_said (fun _ h => by cases h) (by as_aux_lemma => kernel_rfl) (fun _ h => by cases h) fnIsoAt_row_tie rfl ⟨rfl, rfl⟩ (by as_aux_lemma => kernel_rfl) rfl at_plain (by as_aux_lemma => kernel_rfl)
#print axioms at_card
end Go.Proofs.YtfppgplboomdbaaGreatDoor
