/-
  DERIVED. GIVEN WITH THE SEED: THE CARDS: each row of YtijbnmmeecmbjaaDoorRows.lean that lists a variable, with what it lists TIED to the program's text (the seventh form; the later family's looks); each row that meets fmt, with fmt's text TOLD by the authors' own Lean function (tested against real Go, not proved from fmt's source: count such statements apart). THE CARD IS WHAT COUNTS. Prove the row's statement (the work); the ties are given (YtijbnmmeecmbjaaDoorTie.lean); close each card by the builder's one call (the guide's Derived/Test/ToyasCard.lean, 'card_holds'). Laid BY PROGRAM, IN A SANDBOX (cutbox-door.mjs). By AI agents, Wed Nov 11 2026. No macro, syntax, notation, axiom, sorry.
-/
import Derived.Test.YtijbnmmeecmbjaaDoorRows
import GoSem.ClaimSeven
namespace Go.Proofs.YtijbnmmeecmbjaaDoor
namespace Rows

/-- THE TIED CARD OF 'laws.FnFieldsSize'. -/
def fnFieldsSizeCard : Claim7 := { stood := { row := fnFieldsSizeRow, standIns := [], harness := (true, "04164721b9fa99383d8744234374c96d6f456a33a56645230befc680c3095bb8"), looks := false }, kinds := [], alts := [], laidByText := true, laidKinds := [.sentinel, .sentinel, .sentinel, .sentinel, .sentinel], laidTests := true, laidLooks := .later }
def FnFieldsSizeCardSaid : Prop := Claim7.holds Tryd.pinned (.plain (OpenSpec.ofChange fnFieldsSizeSpec)) fnFieldsSizeCard

/-- THE TIED CARD OF 'laws.FnFieldsMessages'. -/
def fnFieldsMessagesCard : Claim7 := { stood := { row := fnFieldsMessagesRow, standIns := [], harness := (true, "04164721b9fa99383d8744234374c96d6f456a33a56645230befc680c3095bb8"), looks := false }, kinds := [], alts := [], laidByText := true, laidKinds := [.sentinel, .sentinel, .sentinel, .sentinel, .sentinel], laidTests := true, laidLooks := .later }
def FnFieldsMessagesCardSaid : Prop := Claim7.holds Tryd.pinned (.plain (OpenSpec.ofChange fnFieldsMessagesSpec)) fnFieldsMessagesCard

/-- THE TIED CARD OF 'laws.FnFieldsRead'. -/
def fnFieldsReadCard : Claim7 := { stood := { row := fnFieldsReadRow, standIns := [], harness := (true, "04164721b9fa99383d8744234374c96d6f456a33a56645230befc680c3095bb8"), looks := false }, kinds := [], alts := [], laidByText := true, laidKinds := [.sentinel, .sentinel, .sentinel, .sentinel, .sentinel], laidTests := true, laidLooks := .later }
def FnFieldsReadCardSaid : Prop := Claim7.holds Tryd.pinned (.plain (OpenSpec.ofChange fnFieldsReadSpec)) fnFieldsReadCard

/-- THE SECOND FORM's CARD OF 'laws.FnFieldsSize'. -/
def fnFieldsSizeUptoCard : Claim7 := { stood := { row := fnFieldsSizeUptoRow, standIns := [], harness := (true, "04164721b9fa99383d8744234374c96d6f456a33a56645230befc680c3095bb8"), looks := false }, kinds := [], alts := [], laidByText := true, laidKinds := [.sentinel, .sentinel, .sentinel, .sentinel, .sentinel], laidTests := true, laidLooks := .later }
def FnFieldsSizeUptoCardSaid : Prop := Claim7.holds Tryd.pinned (.plain (OpenSpec.upto fnFieldsSizeSpec)) fnFieldsSizeUptoCard

/-- THE SECOND FORM's CARD OF 'laws.FnFieldsMessages'. -/
def fnFieldsMessagesUptoCard : Claim7 := { stood := { row := fnFieldsMessagesUptoRow, standIns := [], harness := (true, "04164721b9fa99383d8744234374c96d6f456a33a56645230befc680c3095bb8"), looks := false }, kinds := [], alts := [], laidByText := true, laidKinds := [.sentinel, .sentinel, .sentinel, .sentinel, .sentinel], laidTests := true, laidLooks := .later }
def FnFieldsMessagesUptoCardSaid : Prop := Claim7.holds Tryd.pinned (.plain (OpenSpec.upto fnFieldsMessagesSpec)) fnFieldsMessagesUptoCard

/-- THE SECOND FORM's CARD OF 'laws.FnFieldsRead'. -/
def fnFieldsReadUptoCard : Claim7 := { stood := { row := fnFieldsReadUptoRow, standIns := [], harness := (true, "04164721b9fa99383d8744234374c96d6f456a33a56645230befc680c3095bb8"), looks := false }, kinds := [], alts := [], laidByText := true, laidKinds := [.sentinel, .sentinel, .sentinel, .sentinel, .sentinel], laidTests := true, laidLooks := .later }
def FnFieldsReadUptoCardSaid : Prop := Claim7.holds Tryd.pinned (.plain (OpenSpec.upto fnFieldsReadSpec)) fnFieldsReadUptoCard
end Rows
end Go.Proofs.YtijbnmmeecmbjaaDoor
