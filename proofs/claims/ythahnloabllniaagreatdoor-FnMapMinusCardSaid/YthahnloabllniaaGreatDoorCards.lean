/-
  DERIVED. GIVEN WITH THE SEED: THE CARDS: each row of YthahnloabllniaaGreatDoorRows.lean that lists a variable, with what it lists TIED to the program's text (the seventh form; the later family's looks); each row that meets fmt, with fmt's text TOLD by the authors' own Lean function (tested against real Go, not proved from fmt's source: count such statements apart). THE CARD IS WHAT COUNTS. Prove the row's statement (the work); the ties are given (YthahnloabllniaaGreatDoorTie.lean); close each card by the builder's one call (the guide's Derived/Test/ToyasCard.lean, 'card_holds'). Laid BY PROGRAM, IN A SANDBOX (cutbox-door.mjs). By AI agents, Wed Nov 11 2026. No macro, syntax, notation, axiom, sorry.
-/
import Derived.Test.YthahnloabllniaaGreatDoorRows
import GoSem.ClaimSeven
namespace Go.Proofs.YthahnloabllniaaGreatDoor
namespace Rows

/-- THE TIED CARD OF 'laws.FnMapMinus'. -/
def fnMapMinusCard : Claim7 := { stood := { row := fnMapMinusRow, standIns := [], harness := (true, "482d9731f3e16f2fa888ff178a4ae7a05dacff53a39a9944440e4287434da94f"), looks := true }, kinds := [], alts := [], laidByText := true, laidKinds := [.data, .data, .sentinel, .sentinel, .sentinel, .data, .data, .data, .data], laidTests := true, laidLooks := .later }
def FnMapMinusCardSaid : Prop := Claim7.holds Tryz.pinned (.plain (OpenSpec.ofChange fnMapMinusSpec)) fnMapMinusCard

/-- THE SECOND FORM's CARD OF 'laws.FnMapMinus'. -/
def fnMapMinusUptoCard : Claim7 := { stood := { row := fnMapMinusUptoRow, standIns := [], harness := (true, "482d9731f3e16f2fa888ff178a4ae7a05dacff53a39a9944440e4287434da94f"), looks := true }, kinds := [], alts := [], laidByText := true, laidKinds := [.data, .data, .sentinel, .sentinel, .sentinel, .data, .data, .data, .data], laidTests := true, laidLooks := .later }
def FnMapMinusUptoCardSaid : Prop := Claim7.holds Tryz.pinned (.plain (OpenSpec.upto fnMapMinusSpec)) fnMapMinusUptoCard
end Rows
end Go.Proofs.YthahnloabllniaaGreatDoor
