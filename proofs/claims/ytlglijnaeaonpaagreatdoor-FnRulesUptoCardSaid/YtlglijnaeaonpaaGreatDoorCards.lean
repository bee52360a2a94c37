/-
  DERIVED. GIVEN WITH THE SEED: THE CARDS: each row of YtlglijnaeaonpaaGreatDoorRows.lean that lists a variable, with what it lists TIED to the program's text (the seventh form; the later family's looks); each row that meets fmt, with fmt's text TOLD by the authors' own Lean function (tested against real Go, not proved from fmt's source: count such statements apart). THE CARD IS WHAT COUNTS. Prove the row's statement (the work); the ties are given (YtlglijnaeaonpaaGreatDoorTie.lean); close each card by the builder's one call (the guide's Derived/Test/ToyasCard.lean, 'card_holds'). Laid BY PROGRAM, IN A SANDBOX (cutbox-door.mjs). By AI agents, Wed Nov 11 2026. No macro, syntax, notation, axiom, sorry.
-/
import Derived.Test.YtlglijnaeaonpaaGreatDoorRows
import GoSem.ClaimSeven
namespace Go.Proofs.YtlglijnaeaonpaaGreatDoor
namespace Rows

/-- THE TIED CARD OF 'laws.FnRules'. -/
def fnRulesCard : Claim7 := { stood := { row := fnRulesRow, standIns := [], harness := (true, "faa162f10c44f1eb5e8b4eb7fa541debf3a3e52fc078aa072a695941e9199d8c"), looks := true }, kinds := [], alts := [], laidByText := true, laidKinds := [.data, .data, .data, .data, .sentinel, .data, .data, .pinned], laidTests := true, laidLooks := .later }
def FnRulesCardSaid : Prop := Claim7.holds Tryz.pinned (.plain (OpenSpec.ofChange fnRulesSpec)) fnRulesCard

/-- THE TIED CARD OF 'laws.FnStyle'. -/
def fnStyleCard : Claim7 := { stood := { row := fnStyleRow, standIns := [], harness := (true, "faa162f10c44f1eb5e8b4eb7fa541debf3a3e52fc078aa072a695941e9199d8c"), looks := true }, kinds := [], alts := [], laidByText := true, laidKinds := [.data, .data, .data, .data, .sentinel, .data, .data, .pinned], laidTests := true, laidLooks := .later }
def FnStyleCardSaid : Prop := Claim7.holds Tryz.pinned (.plain (OpenSpec.ofChange fnStyleSpec)) fnStyleCard

/-- THE SECOND FORM's CARD OF 'laws.FnRules'. -/
def fnRulesUptoCard : Claim7 := { stood := { row := fnRulesUptoRow, standIns := [], harness := (true, "faa162f10c44f1eb5e8b4eb7fa541debf3a3e52fc078aa072a695941e9199d8c"), looks := true }, kinds := [], alts := [], laidByText := true, laidKinds := [.data, .data, .data, .data, .sentinel, .data, .data, .pinned], laidTests := true, laidLooks := .later }
def FnRulesUptoCardSaid : Prop := Claim7.holds Tryz.pinned (.plain (OpenSpec.upto fnRulesSpec)) fnRulesUptoCard

/-- THE SECOND FORM's CARD OF 'laws.FnStyle'. -/
def fnStyleUptoCard : Claim7 := { stood := { row := fnStyleUptoRow, standIns := [], harness := (true, "faa162f10c44f1eb5e8b4eb7fa541debf3a3e52fc078aa072a695941e9199d8c"), looks := true }, kinds := [], alts := [], laidByText := true, laidKinds := [.data, .data, .data, .data, .sentinel, .data, .data, .pinned], laidTests := true, laidLooks := .later }
def FnStyleUptoCardSaid : Prop := Claim7.holds Tryz.pinned (.plain (OpenSpec.upto fnStyleSpec)) fnStyleUptoCard
end Rows
end Go.Proofs.YtlglijnaeaonpaaGreatDoor
