/-
  NARROWER THAN 'FOR EVERY INPUT', by the rows' own cells (each row's printed sentence says how): FnDiffsMerged: laid · FnCidSafe: laid · FnWantedOrder: laid.
  DERIVED. THE GIVEN ROWS OF THIS SEAT. 3 by the template 'for every input the law returns true; each argument reads behind the call as it read before'; 0 by the template 'total and deterministic' (their statements: YtijbdinemjiepaaDoorTotals.lean).
  GIVEN WITH THE SEED: the statements are not yours to turn. If you find one false, say at which input.
  Laid BY PROGRAM, IN A SANDBOX (cutbox-rows.mjs): the forced cells as the released guide's own fill.sh prints them over the translation 5cbcfeaddfbc85ee… (all of the seat's roots in one cut). By AI agents, Wed Nov 11 2026. No macro, syntax, notation, axiom, sorry.
-/
import Derived.Test.YtijbdinemjiepaaDoorChecked
import GoSem.Claim
import GoSem.ClaimJoined
import GoSem.ClaimMapViews
import Derived.JoinedTies
import Derived.KernelRfl
namespace Go.Proofs.YtijbdinemjiepaaDoor
/- THE CELL 'sum', in the pinned program and in every row, IS THE sha256 OF THE DUMP (.gsa) THAT YtijbdinemjiepaaDoorProg.lean LOADS. Nothing in Lean hashes anything: it is a label: what it is worth is what the hold of that sum in a sandbox is worth. -/
noncomputable def Tryd.pinned : Pinned := { name := "ytijbdinemjiepaadoor", sum := "5cbcfeaddfbc85ee53ef275bd675edd205f4c44a83b581381d16b2b1535bbc22", checked := Tryd.checked }
namespace Rows
def none {H : Type} : Left H := { results := [], args := [] }

/- WHAT THE LISTED PACKAGE-LEVEL VARIABLES READ AS WHEN THE CALL BEGINS. Each datum BY PROGRAM (the guide's laid-datum.mjs) off the statement by which the dump's own 'gosem.cut.vars' lays the variable. In a bare row this is a premise. The card (YtijbdinemjiepaaDoorCards.lean) ties it to the program's text. -/
def laid_pub_tholos_pub_govarint_ErrOverflow {H : Type} : DataW H := .iface "*errors.errorString" (.ptr (.agg [.lit (.string [118, 97, 114, 105, 110, 116, 115, 32, 108, 97, 114, 103, 101, 114, 32, 116, 104, 97, 110, 32, 117, 105, 110, 116, 54, 51, 32, 110, 111, 116, 32, 115, 117, 112, 112, 111, 114, 116, 101, 100])]))
def laid_pub_tholos_pub_govarint_ErrUnderflow {H : Type} : DataW H := .iface "*errors.errorString" (.ptr (.agg [.lit (.string [118, 97, 114, 105, 110, 116, 115, 32, 109, 97, 108, 102, 111, 114, 109, 101, 100, 44, 32, 99, 111, 117, 108, 100, 32, 110, 111, 116, 32, 114, 101, 97, 99, 104, 32, 116, 104, 101, 32, 101, 110, 100])]))
def laid_pub_tholos_pub_govarint_ErrNotMinimal {H : Type} : DataW H := .iface "*errors.errorString" (.ptr (.agg [.lit (.string [118, 97, 114, 105, 110, 116, 32, 110, 111, 116, 32, 109, 105, 110, 105, 109, 97, 108, 108, 121, 32, 101, 110, 99, 111, 100, 101, 100])]))
def laid_pub_tholos_pub_gomultihash_ErrTooShort {H : Type} : DataW H := .iface "*errors.errorString" (.ptr (.agg [.lit (.string [109, 117, 108, 116, 105, 104, 97, 115, 104, 32, 116, 111, 111, 32, 115, 104, 111, 114, 116, 46, 32, 109, 117, 115, 116, 32, 98, 101, 32, 62, 61, 32, 50, 32, 98, 121, 116, 101, 115])]))
def laid_pub_tholos_pub_gomultihash_ErrVarintBufferShort {H : Type} : DataW H := .iface "*errors.errorString" (.ptr (.agg [.lit (.string [117, 118, 97, 114, 105, 110, 116, 58, 32, 98, 117, 102, 102, 101, 114, 32, 116, 111, 111, 32, 115, 109, 97, 108, 108])]))
def laid_pub_tholos_pub_gomultihash_ErrVarintTooLong {H : Type} : DataW H := .iface "*errors.errorString" (.ptr (.agg [.lit (.string [117, 118, 97, 114, 105, 110, 116, 58, 32, 118, 97, 114, 105, 110, 116, 32, 116, 111, 111, 32, 98, 105, 103, 32, 40, 109, 97, 120, 32, 54, 52, 98, 105, 116, 41])]))
def laid_pub_tholos_pub_boxo_verifcid_DefaultAllowlist {H : Type} : DataW H := .agg []
def laid_pub_tholos_pub_boxo_verifcid_ErrPossiblyInsecureHashFunction {H : Type} : DataW H := .iface "*errors.errorString" (.ptr (.agg [.lit (.string [112, 111, 116, 101, 110, 116, 105, 97, 108, 108, 121, 32, 105, 110, 115, 101, 99, 117, 114, 101, 32, 104, 97, 115, 104, 32, 102, 117, 110, 99, 116, 105, 111, 110, 115, 32, 110, 111, 116, 32, 97, 108, 108, 111, 119, 101, 100])]))
def laid_pub_tholos_pub_boxo_verifcid_ErrBelowMinimumHashLength {H : Type} : DataW H := .iface "*errors.errorString" (.ptr (.agg [.lit (.string [104, 97, 115, 104, 101, 115, 32, 109, 117, 115, 116, 32, 98, 101, 32, 97, 116, 32, 108, 101, 97, 115, 116, 32, 50, 48, 32, 98, 121, 116, 101, 115, 32, 108, 111, 110, 103])]))
def laid_pub_tholos_pub_boxo_verifcid_ErrAboveMaximumHashLength {H : Type} : DataW H := .iface "*errors.errorString" (.ptr (.agg [.lit (.string [104, 97, 115, 104, 101, 115, 32, 109, 117, 115, 116, 32, 98, 101, 32, 97, 116, 32, 109, 111, 115, 116, 32, 49, 50, 56, 32, 98, 121, 116, 101, 115, 32, 108, 111, 110, 103])]))

/-- 'laws.FnDiffsMerged': WHATEVER THE INPUT: true; the input reads as it did. -/
def fnDiffsMergedSpec : ChangeSpec := { name := "fnDiffsMerged", fn := fun _ => fun
  | [d1, d2] => { results := [.lit (.bool true)], args := [d1, d2] }
  | _ => none }
def fnDiffsMergedRow : OpenClaim := { program := "ytijbdinemjiepaadoor", sum := "5cbcfeaddfbc85ee53ef275bd675edd205f4c44a83b581381d16b2b1535bbc22", func := "pub-tholos/laws.FnDiffsMerged", spec := "fnDiffsMerged", unfollowed := true, recurses := true, named := ["pub-tholos/pub/gomultihash.ErrTooShort", "pub-tholos/pub/gomultihash.ErrVarintBufferShort", "pub-tholos/pub/gomultihash.ErrVarintTooLong", "pub-tholos/pub/govarint.ErrOverflow", "pub-tholos/pub/govarint.ErrNotMinimal", "pub-tholos/pub/govarint.ErrUnderflow"], plainKeys := false, apart := false, laid := [("pub-tholos/pub/govarint.ErrOverflow", laid_pub_tholos_pub_govarint_ErrOverflow), ("pub-tholos/pub/govarint.ErrUnderflow", laid_pub_tholos_pub_govarint_ErrUnderflow), ("pub-tholos/pub/govarint.ErrNotMinimal", laid_pub_tholos_pub_govarint_ErrNotMinimal), ("pub-tholos/pub/gomultihash.ErrTooShort", laid_pub_tholos_pub_gomultihash_ErrTooShort), ("pub-tholos/pub/gomultihash.ErrVarintBufferShort", laid_pub_tholos_pub_gomultihash_ErrVarintBufferShort), ("pub-tholos/pub/gomultihash.ErrVarintTooLong", laid_pub_tholos_pub_gomultihash_ErrVarintTooLong)] }
def FnDiffsMergedSaid : Prop := fnDiffsMergedRow.holds Tryd.pinned (OpenSpec.ofChange fnDiffsMergedSpec)

/-- ITS FALSE NEIGHBOUR: 'it returns false'. Refute it at one input. -/
def fnDiffsMergedWrong : ChangeSpec := { name := "fnDiffsMerged", fn := fun _ => fun
  | [d1, d2] => { results := [.lit (.bool false)], args := [d1, d2] }
  | _ => none }
def FnDiffsMergedWrongFalsely : Prop := fnDiffsMergedRow.holds Tryd.pinned (OpenSpec.ofChange fnDiffsMergedWrong)

/-- 'laws.FnCidSafe': WHATEVER THE INPUT: true; the input reads as it did. -/
def fnCidSafeSpec : ChangeSpec := { name := "fnCidSafe", fn := fun _ => fun
  | [d1, d2, d3] => { results := [.lit (.bool true)], args := [d1, d2, d3] }
  | _ => none }
def fnCidSafeRow : OpenClaim := { program := "ytijbdinemjiepaadoor", sum := "5cbcfeaddfbc85ee53ef275bd675edd205f4c44a83b581381d16b2b1535bbc22", func := "pub-tholos/laws.FnCidSafe", spec := "fnCidSafe", unfollowed := true, recurses := true, named := ["pub-tholos/pub/boxo/verifcid.DefaultAllowlist", "pub-tholos/pub/boxo/verifcid.ErrPossiblyInsecureHashFunction", "pub-tholos/pub/boxo/verifcid.ErrBelowMinimumHashLength", "pub-tholos/pub/gomultihash.ErrTooShort", "pub-tholos/pub/gomultihash.ErrVarintBufferShort", "pub-tholos/pub/gomultihash.ErrVarintTooLong", "pub-tholos/pub/govarint.ErrOverflow", "pub-tholos/pub/govarint.ErrNotMinimal", "pub-tholos/pub/govarint.ErrUnderflow", "pub-tholos/pub/boxo/verifcid.ErrAboveMaximumHashLength"], plainKeys := false, apart := false, laid := [("pub-tholos/pub/govarint.ErrOverflow", laid_pub_tholos_pub_govarint_ErrOverflow), ("pub-tholos/pub/govarint.ErrUnderflow", laid_pub_tholos_pub_govarint_ErrUnderflow), ("pub-tholos/pub/govarint.ErrNotMinimal", laid_pub_tholos_pub_govarint_ErrNotMinimal), ("pub-tholos/pub/gomultihash.ErrTooShort", laid_pub_tholos_pub_gomultihash_ErrTooShort), ("pub-tholos/pub/gomultihash.ErrVarintBufferShort", laid_pub_tholos_pub_gomultihash_ErrVarintBufferShort), ("pub-tholos/pub/gomultihash.ErrVarintTooLong", laid_pub_tholos_pub_gomultihash_ErrVarintTooLong), ("pub-tholos/pub/boxo/verifcid.DefaultAllowlist", laid_pub_tholos_pub_boxo_verifcid_DefaultAllowlist), ("pub-tholos/pub/boxo/verifcid.ErrPossiblyInsecureHashFunction", laid_pub_tholos_pub_boxo_verifcid_ErrPossiblyInsecureHashFunction), ("pub-tholos/pub/boxo/verifcid.ErrBelowMinimumHashLength", laid_pub_tholos_pub_boxo_verifcid_ErrBelowMinimumHashLength), ("pub-tholos/pub/boxo/verifcid.ErrAboveMaximumHashLength", laid_pub_tholos_pub_boxo_verifcid_ErrAboveMaximumHashLength)] }
def FnCidSafeSaid : Prop := fnCidSafeRow.holds Tryd.pinned (OpenSpec.ofChange fnCidSafeSpec)

/-- ITS FALSE NEIGHBOUR: 'it returns false'. Refute it at one input. -/
def fnCidSafeWrong : ChangeSpec := { name := "fnCidSafe", fn := fun _ => fun
  | [d1, d2, d3] => { results := [.lit (.bool false)], args := [d1, d2, d3] }
  | _ => none }
def FnCidSafeWrongFalsely : Prop := fnCidSafeRow.holds Tryd.pinned (OpenSpec.ofChange fnCidSafeWrong)

/-- 'laws.FnWantedOrder': WHATEVER THE INPUT: true; the input reads as it did. -/
def fnWantedOrderSpec : ChangeSpec := { name := "fnWantedOrder", fn := fun _ => fun
  | [d1, d2] => { results := [.lit (.bool true)], args := [d1, d2] }
  | _ => none }
def fnWantedOrderRow : OpenClaim := { program := "ytijbdinemjiepaadoor", sum := "5cbcfeaddfbc85ee53ef275bd675edd205f4c44a83b581381d16b2b1535bbc22", func := "pub-tholos/laws.FnWantedOrder", spec := "fnWantedOrder", unfollowed := true, recurses := true, named := ["pub-tholos/pub/gomultihash.ErrTooShort", "pub-tholos/pub/gomultihash.ErrVarintBufferShort", "pub-tholos/pub/gomultihash.ErrVarintTooLong", "pub-tholos/pub/govarint.ErrOverflow", "pub-tholos/pub/govarint.ErrNotMinimal", "pub-tholos/pub/govarint.ErrUnderflow"], plainKeys := false, apart := false, laid := [("pub-tholos/pub/govarint.ErrOverflow", laid_pub_tholos_pub_govarint_ErrOverflow), ("pub-tholos/pub/govarint.ErrUnderflow", laid_pub_tholos_pub_govarint_ErrUnderflow), ("pub-tholos/pub/govarint.ErrNotMinimal", laid_pub_tholos_pub_govarint_ErrNotMinimal), ("pub-tholos/pub/gomultihash.ErrTooShort", laid_pub_tholos_pub_gomultihash_ErrTooShort), ("pub-tholos/pub/gomultihash.ErrVarintBufferShort", laid_pub_tholos_pub_gomultihash_ErrVarintBufferShort), ("pub-tholos/pub/gomultihash.ErrVarintTooLong", laid_pub_tholos_pub_gomultihash_ErrVarintTooLong)] }
def FnWantedOrderSaid : Prop := fnWantedOrderRow.holds Tryd.pinned (OpenSpec.ofChange fnWantedOrderSpec)

/-- ITS FALSE NEIGHBOUR: 'it returns false'. Refute it at one input. -/
def fnWantedOrderWrong : ChangeSpec := { name := "fnWantedOrder", fn := fun _ => fun
  | [d1, d2] => { results := [.lit (.bool false)], args := [d1, d2] }
  | _ => none }
def FnWantedOrderWrongFalsely : Prop := fnWantedOrderRow.holds Tryd.pinned (OpenSpec.ofChange fnWantedOrderWrong)

/- THE SECOND FORM. 'bulk': how many values and letters a reading holds, each counted each time it is reached (what is shared counts as often as it is met; a slice's spare places count too). A statement '..UptoSaid' is the law's where the arguments, and the package variables that the reading takes, are together of bulk at most 1048576: NARROWER than '..Said'. Prove '..Said' where nothing that the law and all that it calls make is longer than what came in: it says more and counts as full. Else prove '..UptoSaid'. A law counts once. -/
mutual
def uptoBulk {H : Type} : DataW H → Nat
  | .lit (.string bytes) => bytes.length + 1
  | .lit _ => 1
  | .nil => 1
  | .ptr d => uptoBulk d + 1
  | .slice elems spare => uptoBulkAll elems + uptoBulkAll spare + 1
  | .agg parts => uptoBulkAll parts + 1
  | .iface _ d => uptoBulk d + 1
  | .map entries => uptoBulkEntries entries + 1
  | .held _ => 1
def uptoBulkAll {H : Type} : List (DataW H) → Nat
  | [] => 0
  | d :: r => uptoBulk d + uptoBulkAll r
def uptoBulkEntries {H : Type} : List (Lit × DataW H) → Nat
  | [] => 0
  | x :: r => uptoBulkEntry x + uptoBulkEntries r
def uptoBulkEntry {H : Type} : Lit × DataW H → Nat
  | (.string bytes, d) => bytes.length + uptoBulk d + 1
  | (_, d) => uptoBulk d + 1
 end
def uptoSmall : (H : Type) → List (DataW H) → Bool := fun _ ds => decide (uptoBulkAll ds ≤ 1048576)
def OpenSpec.upto (s : _root_.Go.ChangeSpec) : _root_.Go.OpenSpec := { _root_.Go.OpenSpec.ofChange s with cond := some uptoSmall }

/-- 'laws.FnDiffsMerged', WHERE WHAT IT READS IS OF BULK AT MOST 1048576: true; the input reads as it did. -/
def fnDiffsMergedUptoRow : OpenClaim := { program := "ytijbdinemjiepaadoor", sum := "5cbcfeaddfbc85ee53ef275bd675edd205f4c44a83b581381d16b2b1535bbc22", func := "pub-tholos/laws.FnDiffsMerged", spec := "fnDiffsMerged", unfollowed := true, recurses := true, named := ["pub-tholos/pub/gomultihash.ErrTooShort", "pub-tholos/pub/gomultihash.ErrVarintBufferShort", "pub-tholos/pub/gomultihash.ErrVarintTooLong", "pub-tholos/pub/govarint.ErrOverflow", "pub-tholos/pub/govarint.ErrNotMinimal", "pub-tholos/pub/govarint.ErrUnderflow"], plainKeys := false, apart := false, laid := [("pub-tholos/pub/govarint.ErrOverflow", laid_pub_tholos_pub_govarint_ErrOverflow), ("pub-tholos/pub/govarint.ErrUnderflow", laid_pub_tholos_pub_govarint_ErrUnderflow), ("pub-tholos/pub/govarint.ErrNotMinimal", laid_pub_tholos_pub_govarint_ErrNotMinimal), ("pub-tholos/pub/gomultihash.ErrTooShort", laid_pub_tholos_pub_gomultihash_ErrTooShort), ("pub-tholos/pub/gomultihash.ErrVarintBufferShort", laid_pub_tholos_pub_gomultihash_ErrVarintBufferShort), ("pub-tholos/pub/gomultihash.ErrVarintTooLong", laid_pub_tholos_pub_gomultihash_ErrVarintTooLong)], narrowed := true }
def FnDiffsMergedUptoSaid : Prop := fnDiffsMergedUptoRow.holds Tryd.pinned (OpenSpec.upto fnDiffsMergedSpec)

/-- 'laws.FnCidSafe', WHERE WHAT IT READS IS OF BULK AT MOST 1048576: true; the input reads as it did. -/
def fnCidSafeUptoRow : OpenClaim := { program := "ytijbdinemjiepaadoor", sum := "5cbcfeaddfbc85ee53ef275bd675edd205f4c44a83b581381d16b2b1535bbc22", func := "pub-tholos/laws.FnCidSafe", spec := "fnCidSafe", unfollowed := true, recurses := true, named := ["pub-tholos/pub/boxo/verifcid.DefaultAllowlist", "pub-tholos/pub/boxo/verifcid.ErrPossiblyInsecureHashFunction", "pub-tholos/pub/boxo/verifcid.ErrBelowMinimumHashLength", "pub-tholos/pub/gomultihash.ErrTooShort", "pub-tholos/pub/gomultihash.ErrVarintBufferShort", "pub-tholos/pub/gomultihash.ErrVarintTooLong", "pub-tholos/pub/govarint.ErrOverflow", "pub-tholos/pub/govarint.ErrNotMinimal", "pub-tholos/pub/govarint.ErrUnderflow", "pub-tholos/pub/boxo/verifcid.ErrAboveMaximumHashLength"], plainKeys := false, apart := false, laid := [("pub-tholos/pub/govarint.ErrOverflow", laid_pub_tholos_pub_govarint_ErrOverflow), ("pub-tholos/pub/govarint.ErrUnderflow", laid_pub_tholos_pub_govarint_ErrUnderflow), ("pub-tholos/pub/govarint.ErrNotMinimal", laid_pub_tholos_pub_govarint_ErrNotMinimal), ("pub-tholos/pub/gomultihash.ErrTooShort", laid_pub_tholos_pub_gomultihash_ErrTooShort), ("pub-tholos/pub/gomultihash.ErrVarintBufferShort", laid_pub_tholos_pub_gomultihash_ErrVarintBufferShort), ("pub-tholos/pub/gomultihash.ErrVarintTooLong", laid_pub_tholos_pub_gomultihash_ErrVarintTooLong), ("pub-tholos/pub/boxo/verifcid.DefaultAllowlist", laid_pub_tholos_pub_boxo_verifcid_DefaultAllowlist), ("pub-tholos/pub/boxo/verifcid.ErrPossiblyInsecureHashFunction", laid_pub_tholos_pub_boxo_verifcid_ErrPossiblyInsecureHashFunction), ("pub-tholos/pub/boxo/verifcid.ErrBelowMinimumHashLength", laid_pub_tholos_pub_boxo_verifcid_ErrBelowMinimumHashLength), ("pub-tholos/pub/boxo/verifcid.ErrAboveMaximumHashLength", laid_pub_tholos_pub_boxo_verifcid_ErrAboveMaximumHashLength)], narrowed := true }
def FnCidSafeUptoSaid : Prop := fnCidSafeUptoRow.holds Tryd.pinned (OpenSpec.upto fnCidSafeSpec)

/-- 'laws.FnWantedOrder', WHERE WHAT IT READS IS OF BULK AT MOST 1048576: true; the input reads as it did. -/
def fnWantedOrderUptoRow : OpenClaim := { program := "ytijbdinemjiepaadoor", sum := "5cbcfeaddfbc85ee53ef275bd675edd205f4c44a83b581381d16b2b1535bbc22", func := "pub-tholos/laws.FnWantedOrder", spec := "fnWantedOrder", unfollowed := true, recurses := true, named := ["pub-tholos/pub/gomultihash.ErrTooShort", "pub-tholos/pub/gomultihash.ErrVarintBufferShort", "pub-tholos/pub/gomultihash.ErrVarintTooLong", "pub-tholos/pub/govarint.ErrOverflow", "pub-tholos/pub/govarint.ErrNotMinimal", "pub-tholos/pub/govarint.ErrUnderflow"], plainKeys := false, apart := false, laid := [("pub-tholos/pub/govarint.ErrOverflow", laid_pub_tholos_pub_govarint_ErrOverflow), ("pub-tholos/pub/govarint.ErrUnderflow", laid_pub_tholos_pub_govarint_ErrUnderflow), ("pub-tholos/pub/govarint.ErrNotMinimal", laid_pub_tholos_pub_govarint_ErrNotMinimal), ("pub-tholos/pub/gomultihash.ErrTooShort", laid_pub_tholos_pub_gomultihash_ErrTooShort), ("pub-tholos/pub/gomultihash.ErrVarintBufferShort", laid_pub_tholos_pub_gomultihash_ErrVarintBufferShort), ("pub-tholos/pub/gomultihash.ErrVarintTooLong", laid_pub_tholos_pub_gomultihash_ErrVarintTooLong)], narrowed := true }
def FnWantedOrderUptoSaid : Prop := fnWantedOrderUptoRow.holds Tryd.pinned (OpenSpec.upto fnWantedOrderSpec)

end Rows
end Go.Proofs.YtijbdinemjiepaaDoor
