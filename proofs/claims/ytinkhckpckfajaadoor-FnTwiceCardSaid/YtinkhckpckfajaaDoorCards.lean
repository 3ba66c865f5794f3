/-
  DERIVED. GIVEN WITH THE SEED: THE CARDS: each row of YtinkhckpckfajaaDoorRows.lean that lists a variable, with what it lists TIED to the program's text (the seventh form; the later family's looks); each row that meets fmt, with fmt's text TOLD by the authors' own Lean function (tested against real Go, not proved from fmt's source: count such statements apart). THE CARD IS WHAT COUNTS. Prove the row's statement (the work); the ties are given (YtinkhckpckfajaaDoorTie.lean); close each card by the builder's one call (the guide's Derived/Test/ToyasCard.lean, 'card_holds'). Laid BY PROGRAM, IN A SANDBOX (cutbox-door.mjs). By AI agents, Wed Nov 11 2026. No macro, syntax, notation, axiom, sorry.
-/
import Derived.Test.YtinkhckpckfajaaDoorRows
import GoSem.ClaimSeven
namespace Go.Proofs.YtinkhckpckfajaaDoor
namespace Rows

/-- THE TIED CARD OF 'laws.FnTaken'. -/
def fnTakenCard : Claim7 := { stood := { row := fnTakenRow, standIns := [], harness := (true, "8331098c51ca897b4b8427b5cb92b9093afaf9e5496467035e4138de255a6256"), looks := true }, kinds := [], alts := [], laidByText := true, laidKinds := [.sentinel, .sentinel, .sentinel, .sentinel, .data, .data, .data, .data, .data, .data, .funcs], laidTests := true, laidLooks := .later }
def FnTakenCardSaid : Prop := Claim7.holds Tryd.pinned (.plain (OpenSpec.ofChange fnTakenSpec)) fnTakenCard

/-- THE TIED CARD OF 'laws.FnBack'. -/
def fnBackCard : Claim7 := { stood := { row := fnBackRow, standIns := [], harness := (true, "8331098c51ca897b4b8427b5cb92b9093afaf9e5496467035e4138de255a6256"), looks := true }, kinds := [], alts := [], laidByText := true, laidKinds := [.sentinel, .sentinel, .sentinel, .sentinel, .data, .data, .data, .data, .data, .data, .funcs], laidTests := true, laidLooks := .later }
def FnBackCardSaid : Prop := Claim7.holds Tryd.pinned (.plain (OpenSpec.ofChange fnBackSpec)) fnBackCard

/-- THE TIED CARD OF 'laws.FnBehind'. -/
def fnBehindCard : Claim7 := { stood := { row := fnBehindRow, standIns := [], harness := (true, "8331098c51ca897b4b8427b5cb92b9093afaf9e5496467035e4138de255a6256"), looks := true }, kinds := [], alts := [], laidByText := true, laidKinds := [.sentinel, .sentinel, .sentinel, .sentinel, .data, .data, .data, .data, .data, .data, .funcs], laidTests := true, laidLooks := .later }
def FnBehindCardSaid : Prop := Claim7.holds Tryd.pinned (.plain (OpenSpec.ofChange fnBehindSpec)) fnBehindCard

/-- THE TIED CARD OF 'laws.FnCut'. -/
def fnCutCard : Claim7 := { stood := { row := fnCutRow, standIns := [], harness := (true, "8331098c51ca897b4b8427b5cb92b9093afaf9e5496467035e4138de255a6256"), looks := true }, kinds := [], alts := [], laidByText := true, laidKinds := [.sentinel, .sentinel, .sentinel, .sentinel, .data, .data, .data, .data, .data, .data, .funcs], laidTests := true, laidLooks := .later }
def FnCutCardSaid : Prop := Claim7.holds Tryd.pinned (.plain (OpenSpec.ofChange fnCutSpec)) fnCutCard

/-- THE TIED CARD OF 'laws.FnFew'. -/
def fnFewCard : Claim7 := { stood := { row := fnFewRow, standIns := [], harness := (true, "8331098c51ca897b4b8427b5cb92b9093afaf9e5496467035e4138de255a6256"), looks := true }, kinds := [], alts := [], laidByText := true, laidKinds := [.sentinel, .sentinel, .sentinel, .sentinel, .data, .data, .data, .data, .data, .data, .funcs], laidTests := true, laidLooks := .later }
def FnFewCardSaid : Prop := Claim7.holds Tryd.pinned (.plain (OpenSpec.ofChange fnFewSpec)) fnFewCard

/-- THE TIED CARD OF 'laws.FnTwice'. -/
def fnTwiceCard : Claim7 := { stood := { row := fnTwiceRow, standIns := [], harness := (true, "8331098c51ca897b4b8427b5cb92b9093afaf9e5496467035e4138de255a6256"), looks := true }, kinds := [], alts := [], laidByText := true, laidKinds := [.sentinel, .sentinel, .sentinel, .sentinel, .data, .data, .data, .data, .data, .data, .funcs], laidTests := true, laidLooks := .later }
def FnTwiceCardSaid : Prop := Claim7.holds Tryd.pinned (.plain (OpenSpec.ofChange fnTwiceSpec)) fnTwiceCard

/-- THE TIED CARD OF 'laws.FnTwoWays'. -/
def fnTwoWaysCard : Claim7 := { stood := { row := fnTwoWaysRow, standIns := [], harness := (true, "8331098c51ca897b4b8427b5cb92b9093afaf9e5496467035e4138de255a6256"), looks := true }, kinds := [], alts := [], laidByText := true, laidKinds := [.sentinel, .sentinel, .sentinel, .sentinel, .data, .data, .data, .data, .data, .data, .funcs], laidTests := true, laidLooks := .later }
def FnTwoWaysCardSaid : Prop := Claim7.holds Tryd.pinned (.plain (OpenSpec.ofChange fnTwoWaysSpec)) fnTwoWaysCard

/-- THE TIED CARD OF 'laws.FnWide'. -/
def fnWideCard : Claim7 := { stood := { row := fnWideRow, standIns := [], harness := (true, "8331098c51ca897b4b8427b5cb92b9093afaf9e5496467035e4138de255a6256"), looks := true }, kinds := [], alts := [], laidByText := true, laidKinds := [.sentinel, .sentinel, .sentinel, .sentinel, .data, .data, .data, .data, .data, .data, .funcs], laidTests := true, laidLooks := .later }
def FnWideCardSaid : Prop := Claim7.holds Tryd.pinned (.plain (OpenSpec.ofChange fnWideSpec)) fnWideCard

/-- THE SECOND FORM's CARD OF 'laws.FnTaken'. -/
def fnTakenUptoCard : Claim7 := { stood := { row := fnTakenUptoRow, standIns := [], harness := (true, "8331098c51ca897b4b8427b5cb92b9093afaf9e5496467035e4138de255a6256"), looks := true }, kinds := [], alts := [], laidByText := true, laidKinds := [.sentinel, .sentinel, .sentinel, .sentinel, .data, .data, .data, .data, .data, .data, .funcs], laidTests := true, laidLooks := .later }
def FnTakenUptoCardSaid : Prop := Claim7.holds Tryd.pinned (.plain (OpenSpec.upto fnTakenSpec)) fnTakenUptoCard

/-- THE SECOND FORM's CARD OF 'laws.FnBack'. -/
def fnBackUptoCard : Claim7 := { stood := { row := fnBackUptoRow, standIns := [], harness := (true, "8331098c51ca897b4b8427b5cb92b9093afaf9e5496467035e4138de255a6256"), looks := true }, kinds := [], alts := [], laidByText := true, laidKinds := [.sentinel, .sentinel, .sentinel, .sentinel, .data, .data, .data, .data, .data, .data, .funcs], laidTests := true, laidLooks := .later }
def FnBackUptoCardSaid : Prop := Claim7.holds Tryd.pinned (.plain (OpenSpec.upto fnBackSpec)) fnBackUptoCard

/-- THE SECOND FORM's CARD OF 'laws.FnBehind'. -/
def fnBehindUptoCard : Claim7 := { stood := { row := fnBehindUptoRow, standIns := [], harness := (true, "8331098c51ca897b4b8427b5cb92b9093afaf9e5496467035e4138de255a6256"), looks := true }, kinds := [], alts := [], laidByText := true, laidKinds := [.sentinel, .sentinel, .sentinel, .sentinel, .data, .data, .data, .data, .data, .data, .funcs], laidTests := true, laidLooks := .later }
def FnBehindUptoCardSaid : Prop := Claim7.holds Tryd.pinned (.plain (OpenSpec.upto fnBehindSpec)) fnBehindUptoCard

/-- THE SECOND FORM's CARD OF 'laws.FnCut'. -/
def fnCutUptoCard : Claim7 := { stood := { row := fnCutUptoRow, standIns := [], harness := (true, "8331098c51ca897b4b8427b5cb92b9093afaf9e5496467035e4138de255a6256"), looks := true }, kinds := [], alts := [], laidByText := true, laidKinds := [.sentinel, .sentinel, .sentinel, .sentinel, .data, .data, .data, .data, .data, .data, .funcs], laidTests := true, laidLooks := .later }
def FnCutUptoCardSaid : Prop := Claim7.holds Tryd.pinned (.plain (OpenSpec.upto fnCutSpec)) fnCutUptoCard

/-- THE SECOND FORM's CARD OF 'laws.FnFew'. -/
def fnFewUptoCard : Claim7 := { stood := { row := fnFewUptoRow, standIns := [], harness := (true, "8331098c51ca897b4b8427b5cb92b9093afaf9e5496467035e4138de255a6256"), looks := true }, kinds := [], alts := [], laidByText := true, laidKinds := [.sentinel, .sentinel, .sentinel, .sentinel, .data, .data, .data, .data, .data, .data, .funcs], laidTests := true, laidLooks := .later }
def FnFewUptoCardSaid : Prop := Claim7.holds Tryd.pinned (.plain (OpenSpec.upto fnFewSpec)) fnFewUptoCard

/-- THE SECOND FORM's CARD OF 'laws.FnTwice'. -/
def fnTwiceUptoCard : Claim7 := { stood := { row := fnTwiceUptoRow, standIns := [], harness := (true, "8331098c51ca897b4b8427b5cb92b9093afaf9e5496467035e4138de255a6256"), looks := true }, kinds := [], alts := [], laidByText := true, laidKinds := [.sentinel, .sentinel, .sentinel, .sentinel, .data, .data, .data, .data, .data, .data, .funcs], laidTests := true, laidLooks := .later }
def FnTwiceUptoCardSaid : Prop := Claim7.holds Tryd.pinned (.plain (OpenSpec.upto fnTwiceSpec)) fnTwiceUptoCard

/-- THE SECOND FORM's CARD OF 'laws.FnTwoWays'. -/
def fnTwoWaysUptoCard : Claim7 := { stood := { row := fnTwoWaysUptoRow, standIns := [], harness := (true, "8331098c51ca897b4b8427b5cb92b9093afaf9e5496467035e4138de255a6256"), looks := true }, kinds := [], alts := [], laidByText := true, laidKinds := [.sentinel, .sentinel, .sentinel, .sentinel, .data, .data, .data, .data, .data, .data, .funcs], laidTests := true, laidLooks := .later }
def FnTwoWaysUptoCardSaid : Prop := Claim7.holds Tryd.pinned (.plain (OpenSpec.upto fnTwoWaysSpec)) fnTwoWaysUptoCard

/-- THE SECOND FORM's CARD OF 'laws.FnWide'. -/
def fnWideUptoCard : Claim7 := { stood := { row := fnWideUptoRow, standIns := [], harness := (true, "8331098c51ca897b4b8427b5cb92b9093afaf9e5496467035e4138de255a6256"), looks := true }, kinds := [], alts := [], laidByText := true, laidKinds := [.sentinel, .sentinel, .sentinel, .sentinel, .data, .data, .data, .data, .data, .data, .funcs], laidTests := true, laidLooks := .later }
def FnWideUptoCardSaid : Prop := Claim7.holds Tryd.pinned (.plain (OpenSpec.upto fnWideSpec)) fnWideUptoCard
end Rows
end Go.Proofs.YtinkhckpckfajaaDoor
