/-
  DERIVED. GIVEN WITH THE SEED: THE CARDS: each row of YthgbhaackihbjaaDoorRows.lean that lists a variable, with what it lists TIED to the program's text (the seventh form; the later family's looks); each row that meets fmt, with fmt's text TOLD by the authors' own Lean function (tested against real Go, not proved from fmt's source: count such statements apart). THE CARD IS WHAT COUNTS. Prove the row's statement (the work); the ties are given (YthgbhaackihbjaaDoorTie.lean); close each card by the builder's one call (the guide's Derived/Test/ToyasCard.lean, 'card_holds'). Laid BY PROGRAM, IN A SANDBOX (cutbox-door.mjs). By AI agents, Wed Nov 11 2026. No macro, syntax, notation, axiom, sorry.
-/
import Derived.Test.YthgbhaackihbjaaDoorRows
import GoSem.ClaimSeven
namespace Go.Proofs.YthgbhaackihbjaaDoor
namespace Rows

/-- THE TIED CARD OF 'laws.FnPbRead'. -/
def fnPbReadCard : Claim7 := { stood := { row := fnPbReadRow, standIns := [], harness := (true, "77d1294975ffcc943f66314f13f1097ac0da4318005e6f44116cc2e86fb053f7"), looks := true }, kinds := [], alts := [], laidByText := true, laidKinds := [.sentinel, .sentinel, .sentinel, .sentinel], laidTests := true, laidLooks := .later }
def FnPbReadCardSaid : Prop := Claim7.holds Tryd.pinned (.plain (OpenSpec.ofChange fnPbReadSpec)) fnPbReadCard

/-- THE TIED CARD OF 'laws.FnPbBack'. -/
def fnPbBackCard : Claim7 := { stood := { row := fnPbBackRow, standIns := [], harness := (true, "77d1294975ffcc943f66314f13f1097ac0da4318005e6f44116cc2e86fb053f7"), looks := true }, kinds := [], alts := [], laidByText := true, laidKinds := [.sentinel, .sentinel, .sentinel, .sentinel], laidTests := true, laidLooks := .later }
def FnPbBackCardSaid : Prop := Claim7.holds Tryd.pinned (.plain (OpenSpec.ofChange fnPbBackSpec)) fnPbBackCard

/-- THE SECOND FORM's CARD OF 'laws.FnPbRead'. -/
def fnPbReadUptoCard : Claim7 := { stood := { row := fnPbReadUptoRow, standIns := [], harness := (true, "77d1294975ffcc943f66314f13f1097ac0da4318005e6f44116cc2e86fb053f7"), looks := true }, kinds := [], alts := [], laidByText := true, laidKinds := [.sentinel, .sentinel, .sentinel, .sentinel], laidTests := true, laidLooks := .later }
def FnPbReadUptoCardSaid : Prop := Claim7.holds Tryd.pinned (.plain (OpenSpec.upto fnPbReadSpec)) fnPbReadUptoCard

/-- THE SECOND FORM's CARD OF 'laws.FnPbBack'. -/
def fnPbBackUptoCard : Claim7 := { stood := { row := fnPbBackUptoRow, standIns := [], harness := (true, "77d1294975ffcc943f66314f13f1097ac0da4318005e6f44116cc2e86fb053f7"), looks := true }, kinds := [], alts := [], laidByText := true, laidKinds := [.sentinel, .sentinel, .sentinel, .sentinel], laidTests := true, laidLooks := .later }
def FnPbBackUptoCardSaid : Prop := Claim7.holds Tryd.pinned (.plain (OpenSpec.upto fnPbBackSpec)) fnPbBackUptoCard
end Rows
end Go.Proofs.YthgbhaackihbjaaDoor
