/-
  DERIVED. GIVEN WITH THE SEED: THE CARDS: each row of YtleddjhlpgemjaaDoorRows.lean that lists a variable, with what it lists TIED to the program's text (the seventh form; the later family's looks); each row that meets fmt, with fmt's text TOLD by the authors' own Lean function (tested against real Go, not proved from fmt's source: count such statements apart). THE CARD IS WHAT COUNTS. Prove the row's statement (the work); the ties are given (YtleddjhlpgemjaaDoorTie.lean); close each card by the builder's one call (the guide's Derived/Test/ToyasCard.lean, 'card_holds'). Laid BY PROGRAM, IN A SANDBOX (cutbox-door.mjs). By AI agents, Wed Nov 11 2026. No macro, syntax, notation, axiom, sorry.
-/
import Derived.Test.YtleddjhlpgemjaaDoorRows
import GoSem.ClaimSeven
namespace Go.Proofs.YtleddjhlpgemjaaDoor
namespace Rows

/-- THE TIED CARD OF 'laws.FnReadSlow'. -/
def fnReadSlowCard : Claim7 := { stood := { row := fnReadSlowRow, standIns := [], harness := (true, "14f4bb2888e4b2f40b18916e195b1619009275824f306be5777801f452701a4a"), looks := true }, kinds := [], alts := [], laidByText := true, laidKinds := [.sentinel, .sentinel, .sentinel, .sentinel], laidTests := true, laidLooks := .later }
def FnReadSlowCardSaid : Prop := Claim7.holds Tryd.pinned (.plain (OpenSpec.ofChange fnReadSlowSpec)) fnReadSlowCard

/-- THE TIED CARD OF 'laws.FnRead'. -/
def fnReadCard : Claim7 := { stood := { row := fnReadRow, standIns := [], harness := (true, "14f4bb2888e4b2f40b18916e195b1619009275824f306be5777801f452701a4a"), looks := true }, kinds := [], alts := [], laidByText := true, laidKinds := [.sentinel, .sentinel], laidTests := true, laidLooks := .later }
def FnReadCardSaid : Prop := Claim7.holds Tryd.pinned (.plain (OpenSpec.ofChange fnReadSpec)) fnReadCard

/-- THE TIED CARD OF 'laws.FnReadInt'. -/
def fnReadIntCard : Claim7 := { stood := { row := fnReadIntRow, standIns := [], harness := (true, "14f4bb2888e4b2f40b18916e195b1619009275824f306be5777801f452701a4a"), looks := true }, kinds := [], alts := [], laidByText := true, laidKinds := [.sentinel, .sentinel], laidTests := true, laidLooks := .later }
def FnReadIntCardSaid : Prop := Claim7.holds Tryd.pinned (.plain (OpenSpec.ofChange fnReadIntSpec)) fnReadIntCard

/-- THE TIED CARD OF 'laws.FnBothReadAlike'. -/
def fnBothReadAlikeCard : Claim7 := { stood := { row := fnBothReadAlikeRow, standIns := [], harness := (true, "14f4bb2888e4b2f40b18916e195b1619009275824f306be5777801f452701a4a"), looks := true }, kinds := [], alts := [], laidByText := true, laidKinds := [.sentinel, .sentinel, .sentinel, .sentinel], laidTests := true, laidLooks := .later }
def FnBothReadAlikeCardSaid : Prop := Claim7.holds Tryd.pinned (.plain (OpenSpec.ofChange fnBothReadAlikeSpec)) fnBothReadAlikeCard

/-- THE TIED CARD OF 'laws.FnLongIsRead'. -/
def fnLongIsReadCard : Claim7 := { stood := { row := fnLongIsReadRow, standIns := [], harness := (true, "14f4bb2888e4b2f40b18916e195b1619009275824f306be5777801f452701a4a"), looks := true }, kinds := [], alts := [], laidByText := true, laidKinds := [.sentinel, .sentinel, .sentinel, .sentinel], laidTests := true, laidLooks := .later }
def FnLongIsReadCardSaid : Prop := Claim7.holds Tryd.pinned (.plain (OpenSpec.ofChange fnLongIsReadSpec)) fnLongIsReadCard

/-- THE TIED CARD OF 'laws.FnUintsComeBack'. -/
def fnUintsComeBackCard : Claim7 := { stood := { row := fnUintsComeBackRow, standIns := [], harness := (true, "14f4bb2888e4b2f40b18916e195b1619009275824f306be5777801f452701a4a"), looks := true }, kinds := [], alts := [], laidByText := true, laidKinds := [.sentinel, .sentinel], laidTests := true, laidLooks := .later }
def FnUintsComeBackCardSaid : Prop := Claim7.holds Tryd.pinned (.plain (OpenSpec.ofChange fnUintsComeBackSpec)) fnUintsComeBackCard

/-- THE TIED CARD OF 'laws.FnIntComesBack'. -/
def fnIntComesBackCard : Claim7 := { stood := { row := fnIntComesBackRow, standIns := [], harness := (true, "14f4bb2888e4b2f40b18916e195b1619009275824f306be5777801f452701a4a"), looks := true }, kinds := [], alts := [], laidByText := true, laidKinds := [.sentinel, .sentinel], laidTests := true, laidLooks := .later }
def FnIntComesBackCardSaid : Prop := Claim7.holds Tryd.pinned (.plain (OpenSpec.ofChange fnIntComesBackSpec)) fnIntComesBackCard

/-- THE TIED CARD OF 'laws.FnFloatComesBack'. -/
def fnFloatComesBackCard : Claim7 := { stood := { row := fnFloatComesBackRow, standIns := [], harness := (true, "14f4bb2888e4b2f40b18916e195b1619009275824f306be5777801f452701a4a"), looks := true }, kinds := [], alts := [], laidByText := true, laidKinds := [.sentinel, .sentinel], laidTests := true, laidLooks := .later }
def FnFloatComesBackCardSaid : Prop := Claim7.holds Tryd.pinned (.plain (OpenSpec.ofChange fnFloatComesBackSpec)) fnFloatComesBackCard

/-- THE TIED CARD OF 'laws.FnCutIsTold'. -/
def fnCutIsToldCard : Claim7 := { stood := { row := fnCutIsToldRow, standIns := [], harness := (true, "14f4bb2888e4b2f40b18916e195b1619009275824f306be5777801f452701a4a"), looks := true }, kinds := [], alts := [], laidByText := true, laidKinds := [.sentinel, .sentinel, .sentinel, .sentinel], laidTests := true, laidLooks := .later }
def FnCutIsToldCardSaid : Prop := Claim7.holds Tryd.pinned (.plain (OpenSpec.ofChange fnCutIsToldSpec)) fnCutIsToldCard

/-- THE TIED CARD OF 'laws.FnUintComesBack'. -/
def fnUintComesBackCard : Claim7 := { stood := { row := fnUintComesBackRow, standIns := [], harness := (true, "14f4bb2888e4b2f40b18916e195b1619009275824f306be5777801f452701a4a"), looks := true }, kinds := [], alts := [], laidByText := true, laidKinds := [.sentinel, .sentinel, .sentinel, .sentinel], laidTests := true, laidLooks := .later }
def FnUintComesBackCardSaid : Prop := Claim7.holds Tryd.pinned (.plain (OpenSpec.ofChange fnUintComesBackSpec)) fnUintComesBackCard

/-- THE SECOND FORM's CARD OF 'laws.FnReadSlow'. -/
def fnReadSlowUptoCard : Claim7 := { stood := { row := fnReadSlowUptoRow, standIns := [], harness := (true, "14f4bb2888e4b2f40b18916e195b1619009275824f306be5777801f452701a4a"), looks := true }, kinds := [], alts := [], laidByText := true, laidKinds := [.sentinel, .sentinel, .sentinel, .sentinel], laidTests := true, laidLooks := .later }
def FnReadSlowUptoCardSaid : Prop := Claim7.holds Tryd.pinned (.plain (OpenSpec.upto fnReadSlowSpec)) fnReadSlowUptoCard

/-- THE SECOND FORM's CARD OF 'laws.FnRead'. -/
def fnReadUptoCard : Claim7 := { stood := { row := fnReadUptoRow, standIns := [], harness := (true, "14f4bb2888e4b2f40b18916e195b1619009275824f306be5777801f452701a4a"), looks := true }, kinds := [], alts := [], laidByText := true, laidKinds := [.sentinel, .sentinel], laidTests := true, laidLooks := .later }
def FnReadUptoCardSaid : Prop := Claim7.holds Tryd.pinned (.plain (OpenSpec.upto fnReadSpec)) fnReadUptoCard

/-- THE SECOND FORM's CARD OF 'laws.FnReadInt'. -/
def fnReadIntUptoCard : Claim7 := { stood := { row := fnReadIntUptoRow, standIns := [], harness := (true, "14f4bb2888e4b2f40b18916e195b1619009275824f306be5777801f452701a4a"), looks := true }, kinds := [], alts := [], laidByText := true, laidKinds := [.sentinel, .sentinel], laidTests := true, laidLooks := .later }
def FnReadIntUptoCardSaid : Prop := Claim7.holds Tryd.pinned (.plain (OpenSpec.upto fnReadIntSpec)) fnReadIntUptoCard

/-- THE SECOND FORM's CARD OF 'laws.FnBothReadAlike'. -/
def fnBothReadAlikeUptoCard : Claim7 := { stood := { row := fnBothReadAlikeUptoRow, standIns := [], harness := (true, "14f4bb2888e4b2f40b18916e195b1619009275824f306be5777801f452701a4a"), looks := true }, kinds := [], alts := [], laidByText := true, laidKinds := [.sentinel, .sentinel, .sentinel, .sentinel], laidTests := true, laidLooks := .later }
def FnBothReadAlikeUptoCardSaid : Prop := Claim7.holds Tryd.pinned (.plain (OpenSpec.upto fnBothReadAlikeSpec)) fnBothReadAlikeUptoCard

/-- THE SECOND FORM's CARD OF 'laws.FnLongIsRead'. -/
def fnLongIsReadUptoCard : Claim7 := { stood := { row := fnLongIsReadUptoRow, standIns := [], harness := (true, "14f4bb2888e4b2f40b18916e195b1619009275824f306be5777801f452701a4a"), looks := true }, kinds := [], alts := [], laidByText := true, laidKinds := [.sentinel, .sentinel, .sentinel, .sentinel], laidTests := true, laidLooks := .later }
def FnLongIsReadUptoCardSaid : Prop := Claim7.holds Tryd.pinned (.plain (OpenSpec.upto fnLongIsReadSpec)) fnLongIsReadUptoCard

/-- THE SECOND FORM's CARD OF 'laws.FnUintsComeBack'. -/
def fnUintsComeBackUptoCard : Claim7 := { stood := { row := fnUintsComeBackUptoRow, standIns := [], harness := (true, "14f4bb2888e4b2f40b18916e195b1619009275824f306be5777801f452701a4a"), looks := true }, kinds := [], alts := [], laidByText := true, laidKinds := [.sentinel, .sentinel], laidTests := true, laidLooks := .later }
def FnUintsComeBackUptoCardSaid : Prop := Claim7.holds Tryd.pinned (.plain (OpenSpec.upto fnUintsComeBackSpec)) fnUintsComeBackUptoCard

/-- THE SECOND FORM's CARD OF 'laws.FnIntComesBack'. -/
def fnIntComesBackUptoCard : Claim7 := { stood := { row := fnIntComesBackUptoRow, standIns := [], harness := (true, "14f4bb2888e4b2f40b18916e195b1619009275824f306be5777801f452701a4a"), looks := true }, kinds := [], alts := [], laidByText := true, laidKinds := [.sentinel, .sentinel], laidTests := true, laidLooks := .later }
def FnIntComesBackUptoCardSaid : Prop := Claim7.holds Tryd.pinned (.plain (OpenSpec.upto fnIntComesBackSpec)) fnIntComesBackUptoCard

/-- THE SECOND FORM's CARD OF 'laws.FnFloatComesBack'. -/
def fnFloatComesBackUptoCard : Claim7 := { stood := { row := fnFloatComesBackUptoRow, standIns := [], harness := (true, "14f4bb2888e4b2f40b18916e195b1619009275824f306be5777801f452701a4a"), looks := true }, kinds := [], alts := [], laidByText := true, laidKinds := [.sentinel, .sentinel], laidTests := true, laidLooks := .later }
def FnFloatComesBackUptoCardSaid : Prop := Claim7.holds Tryd.pinned (.plain (OpenSpec.upto fnFloatComesBackSpec)) fnFloatComesBackUptoCard

/-- THE SECOND FORM's CARD OF 'laws.FnCutIsTold'. -/
def fnCutIsToldUptoCard : Claim7 := { stood := { row := fnCutIsToldUptoRow, standIns := [], harness := (true, "14f4bb2888e4b2f40b18916e195b1619009275824f306be5777801f452701a4a"), looks := true }, kinds := [], alts := [], laidByText := true, laidKinds := [.sentinel, .sentinel, .sentinel, .sentinel], laidTests := true, laidLooks := .later }
def FnCutIsToldUptoCardSaid : Prop := Claim7.holds Tryd.pinned (.plain (OpenSpec.upto fnCutIsToldSpec)) fnCutIsToldUptoCard

/-- THE SECOND FORM's CARD OF 'laws.FnUintComesBack'. -/
def fnUintComesBackUptoCard : Claim7 := { stood := { row := fnUintComesBackUptoRow, standIns := [], harness := (true, "14f4bb2888e4b2f40b18916e195b1619009275824f306be5777801f452701a4a"), looks := true }, kinds := [], alts := [], laidByText := true, laidKinds := [.sentinel, .sentinel, .sentinel, .sentinel], laidTests := true, laidLooks := .later }
def FnUintComesBackUptoCardSaid : Prop := Claim7.holds Tryd.pinned (.plain (OpenSpec.upto fnUintComesBackSpec)) fnUintComesBackUptoCard
end Rows
end Go.Proofs.YtleddjhlpgemjaaDoor
