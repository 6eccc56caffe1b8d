/-
  DERIVED. GIVEN WITH THE SEED: THE CARDS: each row of YtnfikgagkamioaaGreatDoorRows.lean that lists a variable, with what it lists TIED to the program's text (the seventh form; the later family's looks); each row that meets fmt, with fmt's text TOLD by the authors' own Lean function (tested against real Go, not proved from fmt's source: count such statements apart). THE CARD IS WHAT COUNTS. Prove the row's statement (the work); the ties are given (YtnfikgagkamioaaGreatDoorTie.lean); close each card by the builder's one call (the guide's Derived/Test/ToyasCard.lean, 'card_holds'). Laid BY PROGRAM, IN A SANDBOX (cutbox-door.mjs). By AI agents, Wed Nov 11 2026. No macro, syntax, notation, axiom, sorry.
-/
import Derived.Test.YtnfikgagkamioaaGreatDoorRows
import GoSem.ClaimSeven
namespace Go.Proofs.YtnfikgagkamioaaGreatDoor
namespace Rows

/-- THE TIED CARD OF 'laws.FnBoxOpenAny'. -/
def fnBoxOpenAnyCard : Claim7 := { stood := { row := fnBoxOpenAnyRow, standIns := [], harness := (true, "82e56f2dca5b65ee7b85fe9541466d816a71df8f1084ea278dbc4b1d1b6cedbe"), looks := false }, kinds := [], alts := [], laidByText := true, laidKinds := [.widerDeep], laidTests := true, laidLooks := .later }
def FnBoxOpenAnyCardSaid : Prop := Claim7.holds Tryz.pinned (.plain (OpenSpec.ofChange fnBoxOpenAnySpec)) fnBoxOpenAnyCard

/-- THE SECOND FORM's CARD OF 'laws.FnBoxOpenAny'. -/
def fnBoxOpenAnyUptoCard : Claim7 := { stood := { row := fnBoxOpenAnyUptoRow, standIns := [], harness := (true, "82e56f2dca5b65ee7b85fe9541466d816a71df8f1084ea278dbc4b1d1b6cedbe"), looks := false }, kinds := [], alts := [], laidByText := true, laidKinds := [.widerDeep], laidTests := true, laidLooks := .later }
def FnBoxOpenAnyUptoCardSaid : Prop := Claim7.holds Tryz.pinned (.plain (OpenSpec.upto fnBoxOpenAnySpec)) fnBoxOpenAnyUptoCard
end Rows
end Go.Proofs.YtnfikgagkamioaaGreatDoor
