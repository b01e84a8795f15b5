/-
  DERIVED. GIVEN WITH THE SEED: THE CARDS: each row of Qxb6615981aDoorRows.lean that lists a variable, with what it lists TIED to the program's text (the seventh form; the later family's looks); each row that meets fmt, with fmt's text TOLD by the authors' own Lean function (tested against real Go, not proved from fmt's source: count such statements apart). THE CARD IS WHAT COUNTS. Prove the row's statement (the work); the ties are given (Qxb6615981aDoorTie.lean); close each card by the builder's one call (the guide's Derived/Test/ToyasCard.lean, 'card_holds'). Laid BY PROGRAM, IN A SANDBOX (cutbox-door.mjs). By AI agents, Wed Nov 11 2026. No macro, syntax, notation, axiom, sorry.
-/
import Derived.Test.Qxb6615981aDoorRows
import GoSem.ClaimSeven
namespace Go.Proofs.Qxb6615981aDoor
namespace Rows

/-- THE TIED CARD OF 'zzlaws_h248_b1.FnHoldsOctetsCaseFree'. -/
def fnHoldsOctetsCaseFreeCard : Claim7 := { stood := { row := fnHoldsOctetsCaseFreeRow, standIns := [], harness := (true, "45ce5fe9c6090572f56f44dc594b78cc9e1751bd6a7b9819a8042b96831b4905"), looks := false }, kinds := [], alts := [], laidByText := true, laidKinds := [.data, .data, .data, .mapped, .pinned, .pinned], laidTests := true, laidLooks := .later }
def FnHoldsOctetsCaseFreeCardSaid : Prop := Claim7.holds Tryd.pinned (.plain (OpenSpec.ofChange fnHoldsOctetsCaseFreeSpec)) fnHoldsOctetsCaseFreeCard

/-- THE TIED CARD OF 'zzlaws_h248_b1.FnHoldsOctetsFirstLetter'. -/
def fnHoldsOctetsFirstLetterCard : Claim7 := { stood := { row := fnHoldsOctetsFirstLetterRow, standIns := [], harness := (true, "45ce5fe9c6090572f56f44dc594b78cc9e1751bd6a7b9819a8042b96831b4905"), looks := false }, kinds := [], alts := [], laidByText := true, laidKinds := [.data, .data, .data, .mapped, .pinned, .pinned], laidTests := true, laidLooks := .later }
def FnHoldsOctetsFirstLetterCardSaid : Prop := Claim7.holds Tryd.pinned (.plain (OpenSpec.ofChange fnHoldsOctetsFirstLetterSpec)) fnHoldsOctetsFirstLetterCard

/-- THE TIED CARD OF 'zzlaws_h248_b1.FnCommandItemInsertEvent'. -/
def fnCommandItemInsertEventCard : Claim7 := { stood := { row := fnCommandItemInsertEventRow, standIns := [], harness := (true, "45ce5fe9c6090572f56f44dc594b78cc9e1751bd6a7b9819a8042b96831b4905"), looks := false }, kinds := [], alts := [], laidByText := true, laidKinds := [.data, .data, .data], laidTests := true, laidLooks := .later }
def FnCommandItemInsertEventCardSaid : Prop := Claim7.holds Tryd.pinned (.plain (OpenSpec.ofChange fnCommandItemInsertEventSpec)) fnCommandItemInsertEventCard
end Rows
end Go.Proofs.Qxb6615981aDoor
