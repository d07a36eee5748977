/-
  DERIVED. GIVEN WITH THE SEED: THE CARDS: each row of YtfipfoplmopkaaaGreatDoorRows.lean that lists a variable, with what it lists TIED to the program's text (the seventh form; the later family's looks); each row that meets fmt, with fmt's text TOLD by the authors' own Lean function (tested against real Go, not proved from fmt's source: count such statements apart). THE CARD IS WHAT COUNTS. Prove the row's statement (the work); the ties are given (YtfipfoplmopkaaaGreatDoorTie.lean); close each card by the builder's one call (the guide's Derived/Test/ToyasCard.lean, 'card_holds'). Laid BY PROGRAM, IN A SANDBOX (cutbox-door.mjs). By AI agents, Wed Nov 11 2026. No macro, syntax, notation, axiom, sorry.
-/
import Derived.Test.YtfipfoplmopkaaaGreatDoorRows
import GoSem.ClaimSeven
namespace Go.Proofs.YtfipfoplmopkaaaGreatDoor
namespace Rows

/-- THE TIED CARD OF 'laws.FnIndexRefuses'. -/
def fnIndexRefusesCard : Claim7 := { stood := { row := fnIndexRefusesRow, standIns := [], harness := (true, "a0aabca7926d1cfdd28a130728c06c1e21278a10cf319359c76f09302aa66a59"), looks := true }, kinds := [], alts := [], laidByText := true, laidKinds := [.sentinel, .sentinel], laidTests := true, laidLooks := .later }
def FnIndexRefusesCardSaid : Prop := Claim7.holds Tryz.pinned (.plain (OpenSpec.ofChange fnIndexRefusesSpec)) fnIndexRefusesCard

/-- THE SECOND FORM's CARD OF 'laws.FnIndexRefuses'. -/
def fnIndexRefusesUptoCard : Claim7 := { stood := { row := fnIndexRefusesUptoRow, standIns := [], harness := (true, "a0aabca7926d1cfdd28a130728c06c1e21278a10cf319359c76f09302aa66a59"), looks := true }, kinds := [], alts := [], laidByText := true, laidKinds := [.sentinel, .sentinel], laidTests := true, laidLooks := .later }
def FnIndexRefusesUptoCardSaid : Prop := Claim7.holds Tryz.pinned (.plain (OpenSpec.upto fnIndexRefusesSpec)) fnIndexRefusesUptoCard
end Rows
end Go.Proofs.YtfipfoplmopkaaaGreatDoor
