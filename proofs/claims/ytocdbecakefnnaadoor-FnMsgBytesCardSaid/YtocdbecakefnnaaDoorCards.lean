/-
  DERIVED. GIVEN WITH THE SEED: THE CARDS: each row of YtocdbecakefnnaaDoorRows.lean that lists a variable, with what it lists TIED to the program's text (the seventh form; the later family's looks); each row that meets fmt, with fmt's text TOLD by the authors' own Lean function (tested against real Go, not proved from fmt's source: count such statements apart). THE CARD IS WHAT COUNTS. Prove the row's statement (the work); the ties are given (YtocdbecakefnnaaDoorTie.lean); close each card by the builder's one call (the guide's Derived/Test/ToyasCard.lean, 'card_holds'). Laid BY PROGRAM, IN A SANDBOX (cutbox-door.mjs). By AI agents, Wed Nov 11 2026. No macro, syntax, notation, axiom, sorry.
-/
import Derived.Test.YtocdbecakefnnaaDoorRows
import GoSem.ClaimSeven
namespace Go.Proofs.YtocdbecakefnnaaDoor
namespace Rows

/-- THE TIED CARD OF 'laws.FnMsgBytes'. -/
def fnMsgBytesCard : Claim7 := { stood := { row := fnMsgBytesRow, standIns := [], harness := (true, "1e38c650b5b992e5383156ead1845e72c20d131cbb6cbb3a9c5353436ce9518e"), looks := false }, kinds := [], alts := [], laidByText := true, laidKinds := [.sentinel, .sentinel, .sentinel, .sentinel, .sentinel, .sentinel], laidTests := true, laidLooks := .later }
def FnMsgBytesCardSaid : Prop := Claim7.holds Tryd.pinned (.plain (OpenSpec.ofChange fnMsgBytesSpec)) fnMsgBytesCard

/-- THE TIED CARD OF 'laws.FnMsgJoined'. -/
def fnMsgJoinedCard : Claim7 := { stood := { row := fnMsgJoinedRow, standIns := [], harness := (true, "1e38c650b5b992e5383156ead1845e72c20d131cbb6cbb3a9c5353436ce9518e"), looks := false }, kinds := [], alts := [], laidByText := true, laidKinds := [.sentinel, .sentinel, .sentinel, .sentinel, .sentinel, .sentinel, .sentinel, .sentinel, .sentinel, .sentinel], laidTests := true, laidLooks := .later }
def FnMsgJoinedCardSaid : Prop := Claim7.holds Tryd.pinned (.plain (OpenSpec.ofChange fnMsgJoinedSpec)) fnMsgJoinedCard

/-- THE SECOND FORM's CARD OF 'laws.FnMsgBytes'. -/
def fnMsgBytesUptoCard : Claim7 := { stood := { row := fnMsgBytesUptoRow, standIns := [], harness := (true, "1e38c650b5b992e5383156ead1845e72c20d131cbb6cbb3a9c5353436ce9518e"), looks := false }, kinds := [], alts := [], laidByText := true, laidKinds := [.sentinel, .sentinel, .sentinel, .sentinel, .sentinel, .sentinel], laidTests := true, laidLooks := .later }
def FnMsgBytesUptoCardSaid : Prop := Claim7.holds Tryd.pinned (.plain (OpenSpec.upto fnMsgBytesSpec)) fnMsgBytesUptoCard

/-- THE SECOND FORM's CARD OF 'laws.FnMsgJoined'. -/
def fnMsgJoinedUptoCard : Claim7 := { stood := { row := fnMsgJoinedUptoRow, standIns := [], harness := (true, "1e38c650b5b992e5383156ead1845e72c20d131cbb6cbb3a9c5353436ce9518e"), looks := false }, kinds := [], alts := [], laidByText := true, laidKinds := [.sentinel, .sentinel, .sentinel, .sentinel, .sentinel, .sentinel, .sentinel, .sentinel, .sentinel, .sentinel], laidTests := true, laidLooks := .later }
def FnMsgJoinedUptoCardSaid : Prop := Claim7.holds Tryd.pinned (.plain (OpenSpec.upto fnMsgJoinedSpec)) fnMsgJoinedUptoCard
end Rows
end Go.Proofs.YtocdbecakefnnaaDoor
