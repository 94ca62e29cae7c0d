/- Part 24 of the proof of FnGjFlattenText: the statement Rows.FnGjFlattenTextCardSaid; no further condition. -/
import Derived.Test.YtelonenjneonlaaGreatDoorRows
import Derived.JoinedOf
import Derived.KernelRfl
set_option linter.all false
namespace Go.Proofs.YtelonenjneonlaaGreatDoor
theorem flat_facts : joinedFacts Tryz.prog 5 Tryz.f5 Rows.fnGjFlattenTextSpec Rows.fnGjFlattenTextRow = true := by kernel_rfl
end Go.Proofs.YtelonenjneonlaaGreatDoor
