/-
  DERIVED. GIVEN WITH THE SEED: THE CARDS: each row of YtijbdinemjiepaaDoorRows.lean that lists a variable, with what it lists TIED to the program's text (the seventh form; the later family's looks); each row that meets fmt, with fmt's text TOLD by the authors' own Lean function (tested against real Go, not proved from fmt's source: count such statements apart). THE CARD IS WHAT COUNTS. Prove the row's statement (the work); the ties are given (YtijbdinemjiepaaDoorTie.lean); close each card by the builder's one call (the guide's Derived/Test/ToyasCard.lean, 'card_holds'). Laid BY PROGRAM, IN A SANDBOX (cutbox-door.mjs). By AI agents, Wed Nov 11 2026. No macro, syntax, notation, axiom, sorry.
-/
import Derived.Test.YtijbdinemjiepaaDoorRows
import GoSem.ClaimSeven
namespace Go.Proofs.YtijbdinemjiepaaDoor
namespace Rows

/-- THE TIED CARD OF 'laws.FnDiffsMerged'. -/
def fnDiffsMergedCard : Claim7 := { stood := { row := fnDiffsMergedRow, standIns := [], harness := (true, "2d7d981ceb72afe70dccd85afb9568d05262d8dea857e6a6279c70126e860420"), looks := true }, kinds := [], alts := [], laidByText := true, laidKinds := [.sentinel, .sentinel, .sentinel, .sentinel, .sentinel, .sentinel], laidTests := true, laidLooks := .later }
def FnDiffsMergedCardSaid : Prop := Claim7.holds Tryd.pinned (.plain (OpenSpec.ofChange fnDiffsMergedSpec)) fnDiffsMergedCard

/-- THE TIED CARD OF 'laws.FnCidSafe'. -/
def fnCidSafeCard : Claim7 := { stood := { row := fnCidSafeRow, standIns := [], harness := (true, "2d7d981ceb72afe70dccd85afb9568d05262d8dea857e6a6279c70126e860420"), looks := true }, kinds := [], alts := [], laidByText := true, laidKinds := [.sentinel, .sentinel, .sentinel, .sentinel, .sentinel, .sentinel, .data, .sentinel, .sentinel, .sentinel], laidTests := true, laidLooks := .later }
def FnCidSafeCardSaid : Prop := Claim7.holds Tryd.pinned (.plain (OpenSpec.ofChange fnCidSafeSpec)) fnCidSafeCard

/-- THE TIED CARD OF 'laws.FnWantedOrder'. -/
def fnWantedOrderCard : Claim7 := { stood := { row := fnWantedOrderRow, standIns := [], harness := (true, "2d7d981ceb72afe70dccd85afb9568d05262d8dea857e6a6279c70126e860420"), looks := true }, kinds := [], alts := [], laidByText := true, laidKinds := [.sentinel, .sentinel, .sentinel, .sentinel, .sentinel, .sentinel], laidTests := true, laidLooks := .later }
def FnWantedOrderCardSaid : Prop := Claim7.holds Tryd.pinned (.plain (OpenSpec.ofChange fnWantedOrderSpec)) fnWantedOrderCard

/-- THE SECOND FORM's CARD OF 'laws.FnDiffsMerged'. -/
def fnDiffsMergedUptoCard : Claim7 := { stood := { row := fnDiffsMergedUptoRow, standIns := [], harness := (true, "2d7d981ceb72afe70dccd85afb9568d05262d8dea857e6a6279c70126e860420"), looks := true }, kinds := [], alts := [], laidByText := true, laidKinds := [.sentinel, .sentinel, .sentinel, .sentinel, .sentinel, .sentinel], laidTests := true, laidLooks := .later }
def FnDiffsMergedUptoCardSaid : Prop := Claim7.holds Tryd.pinned (.plain (OpenSpec.upto fnDiffsMergedSpec)) fnDiffsMergedUptoCard

/-- THE SECOND FORM's CARD OF 'laws.FnCidSafe'. -/
def fnCidSafeUptoCard : Claim7 := { stood := { row := fnCidSafeUptoRow, standIns := [], harness := (true, "2d7d981ceb72afe70dccd85afb9568d05262d8dea857e6a6279c70126e860420"), looks := true }, kinds := [], alts := [], laidByText := true, laidKinds := [.sentinel, .sentinel, .sentinel, .sentinel, .sentinel, .sentinel, .data, .sentinel, .sentinel, .sentinel], laidTests := true, laidLooks := .later }
def FnCidSafeUptoCardSaid : Prop := Claim7.holds Tryd.pinned (.plain (OpenSpec.upto fnCidSafeSpec)) fnCidSafeUptoCard

/-- THE SECOND FORM's CARD OF 'laws.FnWantedOrder'. -/
def fnWantedOrderUptoCard : Claim7 := { stood := { row := fnWantedOrderUptoRow, standIns := [], harness := (true, "2d7d981ceb72afe70dccd85afb9568d05262d8dea857e6a6279c70126e860420"), looks := true }, kinds := [], alts := [], laidByText := true, laidKinds := [.sentinel, .sentinel, .sentinel, .sentinel, .sentinel, .sentinel], laidTests := true, laidLooks := .later }
def FnWantedOrderUptoCardSaid : Prop := Claim7.holds Tryd.pinned (.plain (OpenSpec.upto fnWantedOrderSpec)) fnWantedOrderUptoCard
end Rows
end Go.Proofs.YtijbdinemjiepaaDoor
