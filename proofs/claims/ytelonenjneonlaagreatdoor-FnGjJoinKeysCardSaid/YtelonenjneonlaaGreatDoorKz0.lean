/- Part 26 of the proof of FnGjJoinKeys: the statement Rows.FnGjJoinKeysCardSaid; no further condition. -/
import Derived.Test.YtelonenjneonlaaGreatDoorRows
import Derived.JoinedOf
import Derived.KernelRfl
set_option linter.all false
namespace Go.Proofs.YtelonenjneonlaaGreatDoor
theorem join_facts : joinedFacts Tryz.prog 4 Tryz.f4 Rows.fnGjJoinKeysSpec Rows.fnGjJoinKeysRow = true := by kernel_rfl
end Go.Proofs.YtelonenjneonlaaGreatDoor
