/-
  DERIVED. GIVEN WITH THE SEED: THE CARDS: each row of YtillamhoakohdaaGreatDoorRows.lean that lists a variable, with what it lists TIED to the program's text (the seventh form; the later family's looks); each row that meets fmt, with fmt's text TOLD by the authors' own Lean function (tested against real Go, not proved from fmt's source: count such statements apart). THE CARD IS WHAT COUNTS. Prove the row's statement (the work); the ties are given (YtillamhoakohdaaGreatDoorTie.lean); close each card by the builder's one call (the guide's Derived/Test/ToyasCard.lean, 'card_holds'). Laid BY PROGRAM, IN A SANDBOX (cutbox-door.mjs). By AI agents, Wed Nov 11 2026. No macro, syntax, notation, axiom, sorry.
-/
import Derived.Test.YtillamhoakohdaaGreatDoorRows
import GoSem.ClaimSeven
namespace Go.Proofs.YtillamhoakohdaaGreatDoor
namespace Rows

/-- THE TIED CARD OF 'laws.FnYrResolve'. -/
def fnYrResolveCard : Claim7 := { stood := { row := fnYrResolveRow, standIns := [], harness := (true, "df408971289703f4e8b9ac6b136840ed8dfde314c93f8f75306b4fec27d7656f"), looks := true }, kinds := [], alts := [], laidByText := true, laidKinds := [.data, .data, .widerDeep, .widerDeep, .data, .data, .data, .data, .data, .sentinel, .sentinel, .pinned, .pinned], laidTests := true, laidLooks := .later }
def FnYrResolveCardSaid : Prop := Claim7.holds Tryz.pinned (.plain (OpenSpec.ofChange fnYrResolveSpec)) fnYrResolveCard

/-- THE SECOND FORM's CARD OF 'laws.FnYrResolve'. -/
def fnYrResolveUptoCard : Claim7 := { stood := { row := fnYrResolveUptoRow, standIns := [], harness := (true, "df408971289703f4e8b9ac6b136840ed8dfde314c93f8f75306b4fec27d7656f"), looks := true }, kinds := [], alts := [], laidByText := true, laidKinds := [.data, .data, .widerDeep, .widerDeep, .data, .data, .data, .data, .data, .sentinel, .sentinel, .pinned, .pinned], laidTests := true, laidLooks := .later }
def FnYrResolveUptoCardSaid : Prop := Claim7.holds Tryz.pinned (.plain (OpenSpec.upto fnYrResolveSpec)) fnYrResolveUptoCard
end Rows
end Go.Proofs.YtillamhoakohdaaGreatDoor
