/- Part 29 of the proof of FnJrTyped: the statement Rows.FnJrTypedCardSaid; no further condition. -/
import Derived.Test.YtelonenjneonlaaGreatDoorRows
import Derived.JoinedOf
import Derived.KernelRfl
set_option linter.all false
namespace Go.Proofs.YtelonenjneonlaaGreatDoor
theorem typed_facts:joinedFacts Tryz.prog 3 Tryz.f3 Rows.fnJrTypedSpec Rows.fnJrTypedRow=true:=by kernel_rfl

end Go.Proofs.YtelonenjneonlaaGreatDoor