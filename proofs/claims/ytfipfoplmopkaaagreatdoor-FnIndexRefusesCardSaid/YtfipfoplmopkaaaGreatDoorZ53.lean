/- The row of laws.FnIndexRefuses, proved: for every input it returns true, and its arguments read behind the call as before. Condition: the row's own cells. The closed facts that the row wants of the program are asked one by one, so that the kernel lets go of the memory of each. -/
import Derived.Test.YtfipfoplmopkaaaGreatDoorZ52

namespace Go.Proofs.YtfipfoplmopkaaaGreatDoor
open Go Go.ChangeShapes Go.WideShapes Go.ChangeAt Go.RowKit

theorem rowAnd {a b : Bool} (ha : a = true) (hb : b = true) : (a && b) = true := by rw [ha, hb]; rfl

set_option maxHeartbeats 8000000 in
theorem rowFacts : joinedFacts Tryz.prog 3 Tryz.f3 Rows.fnIndexRefusesSpec Rows.fnIndexRefusesRow = true := by
  unfold joinedFacts
  repeat' with_reducible refine rowAnd ?_ ?_
  all_goals decide +kernel

theorem rowNamed : Tryz.prog.funcNamed Rows.fnIndexRefusesRow.func = some 3 := by kernel_rfl
theorem rowInst : Tryz.f3.isInstance Tryz.prog Rows.fnIndexRefusesRow.origin Rows.fnIndexRefusesRow.targs := of_decide_eq_true (by kernel_rfl)
theorem rowWrap : Tryz.f3.isWrapper Tryz.prog Rows.fnIndexRefusesRow.wrapper Rows.fnIndexRefusesRow.mainSum := by unfold Func.isWrapper; first | (rw [if_pos (by decide +kernel)]; kernel_rfl) | (rw [if_neg (by decide +kernel)]; exact ⟨rfl, rfl⟩)

theorem fnIndexRefuses_holds : Rows.FnIndexRefusesSaid :=
  OpenClaim.holds_of_wide 3 Tryz.f3 rfl rfl rfl rfl rfl rfl rfl ⟨rfl, rfl, rfl, rfl, rfl⟩ rfl rfl rfl rfl rfl rowNamed Tryz.func3 rowFacts rowInst rowWrap
    (fun os started H enc _ => lifted os started H enc)

end Go.Proofs.YtfipfoplmopkaaaGreatDoor
