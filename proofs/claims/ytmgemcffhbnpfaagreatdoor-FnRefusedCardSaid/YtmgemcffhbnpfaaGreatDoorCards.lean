/-
  DERIVED. GIVEN WITH THE SEED: THE CARDS: each row of YtmgemcffhbnpfaaGreatDoorRows.lean that lists a variable, with what it lists TIED to the program's text (the seventh form; the later family's looks); each row that meets fmt, with fmt's text TOLD by the authors' own Lean function (tested against real Go, not proved from fmt's source: count such statements apart). THE CARD IS WHAT COUNTS. Prove the row's statement (the work); the ties are given (YtmgemcffhbnpfaaGreatDoorTie.lean); close each card by the builder's one call (the guide's Derived/Test/ToyasCard.lean, 'card_holds'). Laid BY PROGRAM, IN A SANDBOX (cutbox-door.mjs). By AI agents, Wed Nov 11 2026. No macro, syntax, notation, axiom, sorry.
-/
import Derived.Test.YtmgemcffhbnpfaaGreatDoorRows
import GoSem.ClaimSeven
namespace Go.Proofs.YtmgemcffhbnpfaaGreatDoor
namespace Rows

/-- THE TIED CARD OF 'laws.FnAny'. -/
def fnAnyCard : Claim7 := { stood := { row := fnAnyRow, standIns := [], harness := (true, "3de535e1b75a580af3dc32fb70743b10b9956d5adade8f57d1e0fbd1d50d6c96"), looks := true }, kinds := [], alts := [], laidByText := true, laidKinds := [.sentinel, .sentinel, .sentinel, .sentinel, .data, .data, .data, .data, .data, .data, .funcs], laidTests := true, laidLooks := .later }
def FnAnyCardSaid : Prop := Claim7.holds Tryz.pinned (.plain (OpenSpec.ofChange fnAnySpec)) fnAnyCard

/-- THE TIED CARD OF 'laws.FnRefused'. -/
def fnRefusedCard : Claim7 := { stood := { row := fnRefusedRow, standIns := [], harness := (true, "3de535e1b75a580af3dc32fb70743b10b9956d5adade8f57d1e0fbd1d50d6c96"), looks := true }, kinds := [], alts := [], laidByText := true, laidKinds := [.sentinel, .sentinel, .sentinel, .sentinel, .data, .data, .data, .data, .data, .data, .funcs], laidTests := true, laidLooks := .later }
def FnRefusedCardSaid : Prop := Claim7.holds Tryz.pinned (.plain (OpenSpec.ofChange fnRefusedSpec)) fnRefusedCard

/-- THE SECOND FORM's CARD OF 'laws.FnAny'. -/
def fnAnyUptoCard : Claim7 := { stood := { row := fnAnyUptoRow, standIns := [], harness := (true, "3de535e1b75a580af3dc32fb70743b10b9956d5adade8f57d1e0fbd1d50d6c96"), looks := true }, kinds := [], alts := [], laidByText := true, laidKinds := [.sentinel, .sentinel, .sentinel, .sentinel, .data, .data, .data, .data, .data, .data, .funcs], laidTests := true, laidLooks := .later }
def FnAnyUptoCardSaid : Prop := Claim7.holds Tryz.pinned (.plain (OpenSpec.upto fnAnySpec)) fnAnyUptoCard

/-- THE SECOND FORM's CARD OF 'laws.FnRefused'. -/
def fnRefusedUptoCard : Claim7 := { stood := { row := fnRefusedUptoRow, standIns := [], harness := (true, "3de535e1b75a580af3dc32fb70743b10b9956d5adade8f57d1e0fbd1d50d6c96"), looks := true }, kinds := [], alts := [], laidByText := true, laidKinds := [.sentinel, .sentinel, .sentinel, .sentinel, .data, .data, .data, .data, .data, .data, .funcs], laidTests := true, laidLooks := .later }
def FnRefusedUptoCardSaid : Prop := Claim7.holds Tryz.pinned (.plain (OpenSpec.upto fnRefusedSpec)) fnRefusedUptoCard
end Rows
end Go.Proofs.YtmgemcffhbnpfaaGreatDoor
