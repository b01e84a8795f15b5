/-
  DERIVED. GIVEN WITH THE SEED: THE CARDS: each row of Qxb6615875aDoorRows.lean that lists a variable, with what it lists TIED to the program's text (the seventh form; the later family's looks); each row that meets fmt, with fmt's text TOLD by the authors' own Lean function (tested against real Go, not proved from fmt's source: count such statements apart). THE CARD IS WHAT COUNTS. Prove the row's statement (the work); the ties are given (Qxb6615875aDoorTie.lean); close each card by the builder's one call (the guide's Derived/Test/ToyasCard.lean, 'card_holds'). Laid BY PROGRAM, IN A SANDBOX (cutbox-door.mjs). By AI agents, Wed Nov 11 2026. No macro, syntax, notation, axiom, sorry.
-/
import Derived.Test.Qxb6615875aDoorRows
import GoSem.ClaimSeven
namespace Go.Proofs.Qxb6615875aDoor
namespace Rows

/-- THE TIED CARD OF 'zzlaws_internal_policy_b1.FnIsICMPExactlyOneProtocolPerPacket'. -/
def fnIsICMPExactlyOneProtocolPerPacketCard : Claim7 := { stood := { row := fnIsICMPExactlyOneProtocolPerPacketRow, standIns := [], harness := (true, "7cb44e30c9ad73bb9a3f91a6f4c34ff7bfd9872d22322013e545131f872d3ce3"), looks := false }, kinds := [], alts := [], laidByText := true, laidKinds := [.called, .called], laidTests := true, laidLooks := .later }
def FnIsICMPExactlyOneProtocolPerPacketCardSaid : Prop := Claim7.holds Tryd.pinned (.plain (OpenSpec.ofChange fnIsICMPExactlyOneProtocolPerPacketSpec)) fnIsICMPExactlyOneProtocolPerPacketCard

/-- THE TIED CARD OF 'zzlaws_internal_policy_b1.FnIsICMPAgreesWithServiceMatch'. -/
def fnIsICMPAgreesWithServiceMatchCard : Claim7 := { stood := { row := fnIsICMPAgreesWithServiceMatchRow, standIns := [], harness := (true, "7cb44e30c9ad73bb9a3f91a6f4c34ff7bfd9872d22322013e545131f872d3ce3"), looks := false }, kinds := [], alts := [], laidByText := true, laidKinds := [.called, .called, .zero], laidTests := true, laidLooks := .later }
def FnIsICMPAgreesWithServiceMatchCardSaid : Prop := Claim7.holds Tryd.pinned (.plain (OpenSpec.ofChange fnIsICMPAgreesWithServiceMatchSpec)) fnIsICMPAgreesWithServiceMatchCard

/-- THE TIED CARD OF 'zzlaws_internal_policy_b1.FnMatchesPrefixListIsUnion'. -/
def fnMatchesPrefixListIsUnionCard : Claim7 := { stood := { row := fnMatchesPrefixListIsUnionRow, standIns := [], harness := (true, "7cb44e30c9ad73bb9a3f91a6f4c34ff7bfd9872d22322013e545131f872d3ce3"), looks := false }, kinds := [], alts := [], laidByText := true, laidKinds := [.called, .called, .zero], laidTests := true, laidLooks := .later }
def FnMatchesPrefixListIsUnionCardSaid : Prop := Claim7.holds Tryd.pinned (.plain (OpenSpec.ofChange fnMatchesPrefixListIsUnionSpec)) fnMatchesPrefixListIsUnionCard

/-- THE TIED CARD OF 'zzlaws_internal_policy_b1.FnMatchesHostZoneSides'. -/
def fnMatchesHostZoneSidesCard : Claim7 := { stood := { row := fnMatchesHostZoneSidesRow, standIns := [], harness := (true, "7cb44e30c9ad73bb9a3f91a6f4c34ff7bfd9872d22322013e545131f872d3ce3"), looks := false }, kinds := [], alts := [], laidByText := true, laidKinds := [.called, .called, .zero], laidTests := true, laidLooks := .later }
def FnMatchesHostZoneSidesCardSaid : Prop := Claim7.holds Tryd.pinned (.plain (OpenSpec.ofChange fnMatchesHostZoneSidesSpec)) fnMatchesHostZoneSidesCard
end Rows
end Go.Proofs.Qxb6615875aDoor
