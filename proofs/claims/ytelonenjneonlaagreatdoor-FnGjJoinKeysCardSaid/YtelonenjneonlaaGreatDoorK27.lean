/- Part 28 of the proof of FnGjJoinKeys: the statement Rows.FnGjJoinKeysCardSaid; no further condition. -/
import Derived.Test.YtelonenjneonlaaGreatDoorK26
import Derived.Test.YtelonenjneonlaaGreatDoorKz0
set_option linter.all false
namespace Go.Proofs.YtelonenjneonlaaGreatDoor
open Go.ChangeShapes Go.WideShapes Go.ChangeAt Go.RowKit Go.Sx Go.Proofs Js Go.Lib
theorem row_holds : Rows.FnGjJoinKeysSaid :=
  OpenClaim.holds_of_wide 4 Tryz.f4 rfl rfl rfl rfl rfl rfl rfl ⟨rfl, rfl, rfl, rfl, rfl⟩ rfl rfl rfl rfl rfl (by kernel_rfl) Tryz.func4 join_facts
    (of_decide_eq_true (by kernel_rfl)) (by unfold Func.isWrapper; rw [if_neg (of_decide_eq_false (by kernel_rfl))]; exact ⟨rfl, rfl⟩)
    (fun os started H enc _ => lifted os started H enc)
theorem joinKeys_holds : Rows.FnGjJoinKeysCardSaid :=
  Claim7.holds_tied_plain_at .later [] [.data, .data, .widerDeep, .widerDeep, .data, .data, .data, .data, .data, .sentinel, .sentinel, .data, .pinned, .pinned] true (true, "88de855cb45ea1cdcd848b2bc95248a9d343815b0c079f923bd04b5abff55f6c") true row_holds (fun _ h => by cases h) (by kernel_rfl) (fun _ h => by cases h) fnGjJoinKeys_row_tie rfl ⟨rfl, rfl⟩ (by kernel_rfl) rfl
    (fun f fn hf hfn => by
      obtain rfl : f = 4 := Option.some.inj ((show Tryz.prog.funcNamed "pub-tetrapla/laws.FnGjJoinKeys" = some 4 by kernel_rfl).symm.trans hf) |>.symm
      obtain rfl : fn = Tryz.f4 := (Option.some.inj (Tryz.func4.symm.trans hfn)).symm
      exact ⟨by kernel_rfl, fun j t ht => by
        rw [Tryz.params4] at ht
        have hm : t ∈ [9] := by simpa using Array.mem_of_getElem? ht
        have hall : ([9].all fun u => !Tryz.prog.wantsStandIn u) = true := by kernel_rfl
        exact (show Tryz.prog.wantsStandIn t = false by simpa using List.all_eq_true.1 hall t hm)⟩)
    (by kernel_rfl)
#print axioms joinKeys_holds
end Go.Proofs.YtelonenjneonlaaGreatDoor
