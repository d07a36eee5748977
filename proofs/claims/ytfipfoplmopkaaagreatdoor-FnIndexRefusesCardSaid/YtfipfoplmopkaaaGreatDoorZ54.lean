/-
  What is proved: laws.FnIndexRefuses returns true for every input, and each argument reads behind the call as it read before (the tied card of the law). Conditions: none but the row's own cells (two package variables laid as the program's text lays them, which the card ties to the text).
-/
import Derived.Test.YtfipfoplmopkaaaGreatDoorCards
import Derived.Test.YtfipfoplmopkaaaGreatDoorTie
import Derived.Test.YtfipfoplmopkaaaGreatDoorZ53
import Derived.SevenTiedAt

namespace Go.Proofs.YtfipfoplmopkaaaGreatDoor
open Go

theorem fnIndexRefuses_card : Rows.FnIndexRefusesCardSaid :=
  Claim7.holds_tied_plain_at .later [] [.sentinel, .sentinel] true (true, "a0aabca7926d1cfdd28a130728c06c1e21278a10cf319359c76f09302aa66a59") true
    fnIndexRefuses_holds (fun _ h => by cases h) (by kernel_rfl) (fun _ h => by cases h) fnIndexRefuses_row_tie rfl ⟨rfl, rfl⟩ (by kernel_rfl) rfl
    (fun f fn hf hfn => by
      obtain rfl : f = 3 := Option.some.inj ((show Tryz.prog.funcNamed "pub-quillon/laws.FnIndexRefuses" = some 3 by kernel_rfl).symm.trans hf) |>.symm
      obtain rfl : fn = Tryz.f3 := (Option.some.inj (Tryz.func3.symm.trans hfn)).symm
      exact ⟨by kernel_rfl, fun j t ht => by
        rw [Tryz.params3] at ht
        have hm : t ∈ [22, 23] := by simpa using Array.mem_of_getElem? ht
        have hall : ([22, 23].all fun u => !Tryz.prog.wantsStandIn u) = true := by kernel_rfl
        exact (show Tryz.prog.wantsStandIn t = false by simpa using List.all_eq_true.1 hall t hm)⟩)
    (by kernel_rfl)
#print axioms fnIndexRefuses_card

end Go.Proofs.YtfipfoplmopkaaaGreatDoor
