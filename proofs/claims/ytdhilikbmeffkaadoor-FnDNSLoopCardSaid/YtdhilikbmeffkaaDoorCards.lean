/-
  DERIVED. GIVEN WITH THE SEED: THE CARDS: each row of YtdhilikbmeffkaaDoorRows.lean that lists a variable, with what it lists TIED to the program's text (the seventh form; the later family's looks); each row that meets fmt, with fmt's text TOLD by the authors' own Lean function (tested against real Go, not proved from fmt's source: count such statements apart). THE CARD IS WHAT COUNTS. Prove the row's statement (the work); the ties are given (YtdhilikbmeffkaaDoorTie.lean); close each card by the builder's one call (the guide's Derived/Test/ToyasCard.lean, 'card_holds'). Laid BY PROGRAM, IN A SANDBOX (cutbox-door.mjs). By AI agents, Wed Nov 11 2026. No macro, syntax, notation, axiom, sorry.
-/
import Derived.Test.YtdhilikbmeffkaaDoorRows
import GoSem.ClaimSeven
namespace Go.Proofs.YtdhilikbmeffkaaDoor
namespace Rows

/-- THE TIED CARD OF 'laws.FnDNSShort'. -/
def fnDNSShortCard : Claim7 := { stood := { row := fnDNSShortRow, standIns := [], harness := (true, "84d0f0f78b2c8436cc72e9450b732c82700b4632d43411a7da2ebf10ffd4710c"), looks := false }, kinds := [], alts := [], laidByText := true, laidKinds := [.sentinel, .sentinel, .sentinel, .sentinel, .sentinel, .sentinel, .sentinel, .sentinel, .sentinel, .sentinel, .sentinel, .sentinel, .sentinel, .sentinel], laidTests := true, laidLooks := .later }
def FnDNSShortCardSaid : Prop := Claim7.holds Tryd.pinned (.plain (OpenSpec.ofChange fnDNSShortSpec)) fnDNSShortCard

/-- THE TIED CARD OF 'laws.FnDNSLoop'. -/
def fnDNSLoopCard : Claim7 := { stood := { row := fnDNSLoopRow, standIns := [], harness := (true, "84d0f0f78b2c8436cc72e9450b732c82700b4632d43411a7da2ebf10ffd4710c"), looks := false }, kinds := [], alts := [], laidByText := true, laidKinds := [.sentinel, .sentinel, .sentinel, .sentinel, .sentinel, .sentinel, .sentinel, .sentinel, .sentinel, .sentinel, .sentinel, .sentinel, .sentinel, .sentinel], laidTests := true, laidLooks := .later }
def FnDNSLoopCardSaid : Prop := Claim7.holds Tryd.pinned (.plain (OpenSpec.ofChange fnDNSLoopSpec)) fnDNSLoopCard

/-- THE TIED CARD OF 'laws.FnDNSRead'. -/
def fnDNSReadCard : Claim7 := { stood := { row := fnDNSReadRow, standIns := [], harness := (true, "84d0f0f78b2c8436cc72e9450b732c82700b4632d43411a7da2ebf10ffd4710c"), looks := false }, kinds := [], alts := [], laidByText := true, laidKinds := [.sentinel, .sentinel, .sentinel, .sentinel, .sentinel, .sentinel, .sentinel, .sentinel, .sentinel, .sentinel, .sentinel, .sentinel, .sentinel, .sentinel], laidTests := true, laidLooks := .later }
def FnDNSReadCardSaid : Prop := Claim7.holds Tryd.pinned (.plain (OpenSpec.ofChange fnDNSReadSpec)) fnDNSReadCard

/-- THE TIED CARD OF 'laws.FnDNSPointed'. -/
def fnDNSPointedCard : Claim7 := { stood := { row := fnDNSPointedRow, standIns := [], harness := (true, "84d0f0f78b2c8436cc72e9450b732c82700b4632d43411a7da2ebf10ffd4710c"), looks := false }, kinds := [], alts := [], laidByText := true, laidKinds := [.sentinel, .sentinel, .sentinel, .sentinel, .sentinel, .sentinel, .sentinel, .sentinel, .sentinel, .sentinel, .sentinel, .sentinel, .sentinel, .sentinel], laidTests := true, laidLooks := .later }
def FnDNSPointedCardSaid : Prop := Claim7.holds Tryd.pinned (.plain (OpenSpec.ofChange fnDNSPointedSpec)) fnDNSPointedCard

/-- THE SECOND FORM's CARD OF 'laws.FnDNSShort'. -/
def fnDNSShortUptoCard : Claim7 := { stood := { row := fnDNSShortUptoRow, standIns := [], harness := (true, "84d0f0f78b2c8436cc72e9450b732c82700b4632d43411a7da2ebf10ffd4710c"), looks := false }, kinds := [], alts := [], laidByText := true, laidKinds := [.sentinel, .sentinel, .sentinel, .sentinel, .sentinel, .sentinel, .sentinel, .sentinel, .sentinel, .sentinel, .sentinel, .sentinel, .sentinel, .sentinel], laidTests := true, laidLooks := .later }
def FnDNSShortUptoCardSaid : Prop := Claim7.holds Tryd.pinned (.plain (OpenSpec.upto fnDNSShortSpec)) fnDNSShortUptoCard

/-- THE SECOND FORM's CARD OF 'laws.FnDNSLoop'. -/
def fnDNSLoopUptoCard : Claim7 := { stood := { row := fnDNSLoopUptoRow, standIns := [], harness := (true, "84d0f0f78b2c8436cc72e9450b732c82700b4632d43411a7da2ebf10ffd4710c"), looks := false }, kinds := [], alts := [], laidByText := true, laidKinds := [.sentinel, .sentinel, .sentinel, .sentinel, .sentinel, .sentinel, .sentinel, .sentinel, .sentinel, .sentinel, .sentinel, .sentinel, .sentinel, .sentinel], laidTests := true, laidLooks := .later }
def FnDNSLoopUptoCardSaid : Prop := Claim7.holds Tryd.pinned (.plain (OpenSpec.upto fnDNSLoopSpec)) fnDNSLoopUptoCard

/-- THE SECOND FORM's CARD OF 'laws.FnDNSRead'. -/
def fnDNSReadUptoCard : Claim7 := { stood := { row := fnDNSReadUptoRow, standIns := [], harness := (true, "84d0f0f78b2c8436cc72e9450b732c82700b4632d43411a7da2ebf10ffd4710c"), looks := false }, kinds := [], alts := [], laidByText := true, laidKinds := [.sentinel, .sentinel, .sentinel, .sentinel, .sentinel, .sentinel, .sentinel, .sentinel, .sentinel, .sentinel, .sentinel, .sentinel, .sentinel, .sentinel], laidTests := true, laidLooks := .later }
def FnDNSReadUptoCardSaid : Prop := Claim7.holds Tryd.pinned (.plain (OpenSpec.upto fnDNSReadSpec)) fnDNSReadUptoCard

/-- THE SECOND FORM's CARD OF 'laws.FnDNSPointed'. -/
def fnDNSPointedUptoCard : Claim7 := { stood := { row := fnDNSPointedUptoRow, standIns := [], harness := (true, "84d0f0f78b2c8436cc72e9450b732c82700b4632d43411a7da2ebf10ffd4710c"), looks := false }, kinds := [], alts := [], laidByText := true, laidKinds := [.sentinel, .sentinel, .sentinel, .sentinel, .sentinel, .sentinel, .sentinel, .sentinel, .sentinel, .sentinel, .sentinel, .sentinel, .sentinel, .sentinel], laidTests := true, laidLooks := .later }
def FnDNSPointedUptoCardSaid : Prop := Claim7.holds Tryd.pinned (.plain (OpenSpec.upto fnDNSPointedSpec)) fnDNSPointedUptoCard
end Rows
end Go.Proofs.YtdhilikbmeffkaaDoor
